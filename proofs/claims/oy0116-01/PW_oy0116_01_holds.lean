import PyProof.Rows.All
import OpenK.KMake
import KE.KLam
import KE.KSuperObj
import Wide.FinOn
import OpenK.AllK
import Wide.All
import PySem.Challenge.RW_oy0116_01
set_option maxRecDepth 100000
set_option Elab.async false
set_option autoImplicit false
set_option linter.all false
section
namespace Mine
theorem shm {k j n c d : Nat} (hk : 0 < k) (hd : d < k * j) : (c * (k * j) + d) / k % (j * n) = c % n * j + d / k := by
  have e : c * (k * j) + d = k * (c * j) + d := by rw [Nat.mul_left_comm]
  have q : d / k < j := Nat.div_lt_of_lt_mul hd
  have hj : 0 < j := Nat.lt_of_le_of_lt (Nat.zero_le _) q
  rw [e,Nat.mul_add_div hk,Nat.mod_mul,Nat.mul_comm c j,Nat.mul_add_mod,Nat.mod_eq_of_lt q,Nat.mul_add_div hj,Nat.div_eq_of_lt q,Nat.add_zero,Nat.add_comm,Nat.mul_comm]
theorem tn (a : Nat) : (a : Int).toNat = a := rfl
theorem pk {k x y : Nat} (h : y < k) : (x * k + y) % k = y∧(x * k + y) / k = x := by
  have hk : 0 < k := Nat.lt_of_le_of_lt (Nat.zero_le _) h
  constructor
  · rw [Nat.mul_comm,Nat.mul_add_mod,Nat.mod_eq_of_lt h]
  · rw [Nat.mul_comm,Nat.mul_add_div hk,Nat.div_eq_of_lt h,Nat.add_zero]
theorem m4 {a b : Nat} (h : a < 256) : b % 4 * 16 + a / 16 < 64 := by lia
theorem m16 {a b : Nat} (h : a < 256) : b % 16 * 4 + a / 64 < 64 := by lia
theorem m1 {a : Nat} (h : 0 < a) : (a - 1) / 2 < a := Nat.lt_of_le_of_lt (Nat.div_le_self _ _) (Nat.sub_one_lt_of_lt h)
theorem gtk {a b j k : Nat} (h : j < k) (e : b + k≤a) : a≠b + j := Nat.ne_of_gt (Nat.lt_of_lt_of_le (Nat.add_lt_add_left h b) e)
theorem ltk {a b f k : Nat} (h0 : a = b) (h : f < a) : ¬f = b + k := fun e => Nat.lt_irrefl _ (Nat.lt_of_lt_of_le h (h0 ▸ e ▸ Nat.le_add_right b k))
theorem m2 {a b : Nat} (h : 0 < a) (e : (a - 1) / 2 = b) : a = 2 * b + 1∨a = 2 * b + 2 := by lia
theorem b16 {a b : Nat} (h0 : a < 256) (h1 : b < 256) : a * 256 + b < 65536 := by lia
theorem o0 {a b c : Nat} (h0 : a + 8 * b < c) : a < c := by exact Nat.lt_of_le_of_lt (Nat.le_add_right _ _) h0
theorem o1 {a : Nat} (h0 : a = 1) : a = 1 := by exact h0
theorem o2 {a b c d : Nat} (h0 : a≤b) (h1 : c + b < d) : c + a < d := by lia
theorem o3 {a b c d : Nat} (h0 : a≤b) (h1 : c + 8 * b < d) : c + 8 * a < d := by lia
theorem o4 {a b c : Nat} (h0 : a + 8 * (b + 1) < c) : a < c := by exact Nat.lt_of_le_of_lt (Nat.le_add_right _ _) h0
theorem o5 {a b c : Nat} (h0 : a < b) (h1 : a + 8 * (c + 1) < b) : a + 1 < b := by exact Nat.lt_of_le_of_lt (Nat.succ_le_succ (Nat.le_add_right _ _)) h1
theorem o6 {a b c : Nat} (h0 : a≤b) : a≤b + c := by exact Nat.le_trans h0 (Nat.le_add_right _ _)
theorem o7 {a b : Nat} : a≤a + b := by exact Nat.le_add_right _ _
theorem o8 {a : Nat} (h0 : a < 0) : False := by exact Nat.not_lt_zero _ h0
theorem o9 {a b c : Nat} (h0 : a < b + 1) (h1 : c < a) : c < b := by lia
theorem o10 {a b : Nat} (h0 : a - b < 0) : False := by exact Nat.not_lt_zero _ h0
theorem o11 {a b : Nat} (h0 : a < b) : a + 1≤b := by exact h0
theorem o12 {a b c : Nat} (h0 : a - b < c + 1) (h1 : b < a) : a - (b + 1) < c := by exact Nat.lt_of_lt_of_le (Nat.sub_one_lt (Nat.sub_ne_zero_of_lt h1)) (Nat.le_of_lt_succ h0)
theorem o13 {a b : Nat} (h0 : a≤b) (h1 : ¬a < b) : a = b := by lia
theorem o14 {a : Nat} : a≤a := by exact Nat.le_refl _
theorem o15 {a : Nat} : 0≤a := by exact Nat.zero_le _
theorem o16 {a b : Nat} (h0 : a < b) : a - 0 < b := by exact h0
theorem o17 {a b c d : Nat} (h0 : a≤b) (h1 : c≤d) (h2 : d < a) : c≤b := by lia
theorem o18 {a b : Nat} (h0 : a≤b) : a≤b := by exact h0
theorem o19 {a b : Nat} (h0 : a≤b) : a≤b + 1 := by exact Nat.le_succ_of_le h0
theorem o20 {a : Int} : -(-a - 1) - 1 = a := by lia
theorem o21 {a : Nat} : ¬0≤-(↑a : Int) - 1 := by lia
theorem o22 {a : Nat} (h0 : a≤64) : 0≤(↑a : Int) := by exact Int.natCast_nonneg _
theorem o23 {a : Nat} (h0 : a≤64) : (↑a : Int)≤64 := by exact Int.ofNat_le.mpr h0
theorem o24 {a : Nat} (h0 : a < 65536) : 0≤(↑a : Int) := by lia
theorem o25 {a : Nat} (h0 : a < 65536) : (↑a : Int).toNat < 18446744073709551616 := by lia
theorem o26 {a : Nat} (h0 : a < 64) : 0≤(↑a : Int) := by lia
theorem o27 {a b : Nat} (h0 : a < 64) (h1 : b = 64) : a < b := by lia
theorem o28 : 8≤64 := by lia
theorem o29 {a : Int} {b : Nat} (h0 : a = (↑b : Int) + 6) : a - 6 = (↑b : Int) := by lia
theorem o30 {a b : Nat} (h0 : a < 1000) (h1 : b = 16777216) : a≤b := by lia
theorem o31 {a : Nat} (h0 : a≤64) : 6≤(↑a : Int) + 6 := by lia
theorem o32 {a : Nat} : (↑a : Int) + 6 - 6 = (↑a : Int) := by lia
theorem o33 {a : Int} (h0 : a < 6) : ¬6≤a := by omega
theorem o34 : 0 < 65536 := by lia
theorem o35 {a b : Nat} (h0 : a < 256) (h1 : b = a) : a < 65536 := by lia
theorem o36 {a b c d : Nat} (h0 : a < 256) (h1 : b < 256) (h2 : c = a) (h3 : d = b) : a * 256 + b < 65536 := by lia
theorem o37 {a b : Nat} (h0 : a < 256) (h1 : b = a) : (0 * 256 + a) % 65536 = a := by lia
theorem o38 {a b c d : Nat} (h0 : a < 256) (h1 : b < 256) (h2 : c = a) (h3 : d = b) : (a * 256 + b) % 65536 = a * 256 + b := by subst h2 h3; exact Nat.mod_eq_of_lt (b16 h0 h1)
theorem o39 {a b c d e f : Nat} (h0 : a < 256) (h1 : b < 256) (h2 : c = d) (h3 : e = a) (h4 : f = b) : ((d * 256 + a) * 256 + b) % 65536 = a * 256 + b := by subst h3 h4; rw [show (d * 256 + e) * 256 + f = d * 65536 + (e * 256 + f) from by rw [Nat.add_mul,Nat.mul_assoc,Nat.add_assoc]]; exact (pk (b16 h0 h1)).1
theorem o40 : 2≤64 := by lia
theorem o41 : 4≤64 := by lia
theorem o42 : 6≤64 := by lia
theorem o43 : 0≤64 := by lia
theorem o44 {a b : Nat} (h0 : a < 256) (h1 : b = a) : a / 4 % 64 = a / 4 := by lia
theorem o45 {a b c d : Nat} (h0 : a < 256) (h1 : b = c) (h2 : d = a) : (c * 256 + a) / 16 % 64 = c % 4 * 16 + a / 16 := by subst h2; exact shm (k := 16) (j := 16) (n := 4) (Nat.le_of_ble_eq_true rfl) h0
theorem o46 {a b c d : Nat} (h0 : a < 256) (h1 : b = c) (h2 : d = a) : (c * 256 + a) / 64 % 64 = c % 16 * 4 + a / 64 := by subst h2; exact shm (k := 64) (j := 4) (n := 16) (Nat.le_of_ble_eq_true rfl) h0
theorem o47 {a b c d : Nat} (h0 : a = b) (h1 : c = d) : (b * 256 + d) / 1 % 64 = d % 64 := by rw [Nat.div_one,show b * 256 = 64 * (b * 4) from (Nat.mul_left_comm 64 b 4).symm,Nat.mul_add_mod]
theorem o48 {a b : Nat} (h0 : a < b) : (↑a : Int) < (↑b : Int) := by lia
theorem o49 {a : Nat} (h0 : 0 < a) : (↑a : Int) - 1 = (↑(a - 1) : Int) := by exact (Int.ofNat_sub h0).symm
theorem o50 {a b c : Nat} (h0 : a≤b) (h1 : c = a) : c≤b := by omega
theorem o51 {a b c : Nat} (h0 : a = b) (h1 : c < b) : c < a := by lia
theorem o52 {a : Nat} (h0 : 0 < a) : (a - 1) / 2 < a := by exact m1 h0
theorem o53 {a b c : Nat} (h0 : a = b) (h1 : c < b) (h2 : (c - 1) / 2 < c) : (c - 1) / 2 < a := by lia
theorem o54 {a : Nat} (h0 : (a - 1) / 2 < a) : a≠(a - 1) / 2 := by lia
theorem o55 {a : Nat} (h0 : 0 < a) : 0 < (↑a : Int) := by lia
theorem o56 {a b c : Nat} (h0 : a = b) (h1 : c < b) (h2 : (c - 1) / 2 < c) : (c - 1) / 2 < b := by lia
theorem o57 {a : Nat} (h0 : 0 < a) (h1 : (a - 1) / 2 < a) : (↑((a - 1) / 2) : Int).toNat < (↑a : Int).toNat := by exact h1
theorem o58 {a : Nat} (h0 : ¬0 < a) : a = 0 := by omega
theorem o59 {a b : Nat} (h0 : a < b) : (↑a : Int).toNat < b := by lia
theorem o60 {a b c d : Nat} (h0 : a < b) (h1 : c = a) (h2 : d < a) : d < b := by lia
theorem o61 {a b : Nat} (h0 : a < b) : a≠b := by lia
theorem o62 {a b c : Nat} (h0 : a = b) (h1 : 2 * c + 1 < b) : 2 * c + 1 < a := by lia
theorem o63 {a b c : Nat} (h0 : a = b) (h1 : 2 * c + 2 < b) : 2 * c + 2 < a := by lia
theorem o64 {a b c : Nat} (h0 : a = b) (h1 : 2 * c + 2 < b) : 2 * c + 1 < b := by omega
theorem o65 {a : Nat} : 0 < 2 * a + 1 := by lia
theorem o66 {a : Nat} : (2 * a + 1 - 1) / 2 = a := by lia
theorem o67 {a b : Nat} (h0 : 0 < a) (h1 : (a - 1) / 2 = b) : a = 2 * b + 1∨a = 2 * b + 2 := by exact m2 h0 h1
theorem o68 {a b c : Nat} (h0 : a = b) (h1 : 2 * c + 2 < b) : (↑(2 * c + 2) : Int) < (↑b : Int) := by omega
theorem o69 {a b c : Nat} (h0 : a = b) (h1 : 2 * c + 2 < b) : 2 * c + 2 < b := by exact h1
theorem o70 {a : Nat} : 0 < 2 * a + 2 := by exact Nat.zero_lt_succ _
theorem o71 {a : Nat} : (2 * a + 2 - 1) / 2 = a := by lia
theorem o72 {a b c : Nat} (h0 : a = b) (h1 : 2 * c + 1 < b) (h2 : ¬2 * c + 2 < b) : 2 * c + 1 < b := by exact h1
theorem o73 {a b c d : Nat} (h0 : a = b) (h1 : 2 * c + 1 < b) (h2 : ¬2 * c + 2 < b) (h3 : 0 < d) (h4 : d < b) (h5 : (d - 1) / 2 = c) : d = 2 * c + 1 := by exact (m2 h3 h5).elim id fun e => absurd (e ▸ h0 ▸ h4 : 2 * c + 2 < b) h2
theorem o74 {a b c : Nat} (h0 : a = b) (h1 : 2 * c + 1 < b) (h2 : ¬2 * c + 2 < b) : ¬(↑(2 * c + 2) : Int) < (↑b : Int) := by omega
theorem o75 {a b c d : Nat} (h0 : a = b) (h1 : c < b) (h2 : 0 < d∧(d - 1) / 2 = c) : c < a := by subst_vars; assumption
theorem o76 {a b c d : Nat} (h0 : a = b) (h1 : 2 * c + 1 < b) (h2 : 0 < d∧(d - 1) / 2 = c) : 2 * (↑c : Int) + 1 < (↑b : Int) := by exact Int.ofNat_lt.mpr h1
theorem o77 {a : Nat} : 2 * (↑a : Int) + 1 = (↑(2 * a + 1) : Int) := by exact rfl
theorem o78 {a : Nat} : (↑(2 * a + 1) : Int) + 1 = (↑(2 * a + 2) : Int) := by exact Int.natCast_add _ _
theorem o79 {a b c d e : Nat} (h0 : a≤b) (h1 : 0 < a) (h2 : c = a) (h3 : d < a) (h4 : 0 < d∧(d - 1) / 2 = e) (h5 : b = 16777216) : (↑d : Int).natAbs < 18446744073709551616 := by exact Nat.lt_of_lt_of_le (Nat.lt_of_lt_of_le h3 (h5 ▸ h0)) (by decide)
theorem o80 {a b : Nat} (h0 : 0 < a∧(a - 1) / 2 = b) : b < a := by exact h0.2 ▸ m1 h0.1
theorem o81 {a b c : Nat} (h0 : 0 < a∧(a - 1) / 2 = b) (h1 : 0 < c) (h2 : (c - 1) / 2 = b) : b < a := by exact h0.2 ▸ m1 h0.1
theorem o82 {a b c : Nat} (h0 : 0 < a∧(a - 1) / 2 = b) (h1 : 0 < c) (h2 : (c - 1) / 2 = b) : b < c := by exact h2 ▸ m1 h1
theorem o83 {a b c : Nat} (h0 : a = b) (h1 : c < a) : c < b := by exact h0 ▸ h1
theorem o84 {a b c d : Nat} (h0 : a = b) (h1 : c < b) (h2 : 2 * c + 1 < b) (h3 : 0 < d∧(d - 1) / 2 = c) : b - (↑d : Int).toNat < b - (↑c : Int).toNat := by exact Nat.sub_lt_sub_left h1 (h3.2 ▸ m1 h3.1)
theorem o85 {a b c : Nat} (h0 : a = b) (h1 : ¬2 * c + 1 < b) : ¬2 * (↑c : Int) + 1 < (↑b : Int) := by lia
theorem o86 {a b c : Nat} (h0 : a = b) (h1 : ¬2 * c + 1 < b) : a≤2 * c + 1 := by subst_vars; exact Nat.le_of_not_lt h1
theorem o87 {a b : Nat} (h0 : 0 < a) (h1 : a < b) : a - Int.toNat 0 < b := by exact h1
theorem o88 {a b c : Nat} (h0 : a < b) (h1 : c = a + 1) : c≤b := by subst_vars; assumption
theorem o89 {a b : Nat} (h0 : a = b + 1) : b < a := by subst_vars; exact Nat.le_refl _
theorem o90 {a b c : Nat} (h0 : a < b) (h1 : c = a + 1) : a≤b := by exact Nat.le_of_lt h0
theorem o91 {a b : Nat} (h0 : a = b + 1) : (↑a : Int) - 1 = (↑b : Int) := by simp_all
theorem o92 {a : Nat} (h0 : 0 < a) : a - 1 < a := by exact Nat.sub_one_lt_of_lt h0
theorem o93 {a : Nat} (h0 : 0 < a) : a - 1 + 1 = a := by exact Nat.sub_add_cancel h0
theorem o94 {a : Nat} : a + 2 - 1 = a + 1 := by exact rfl
theorem o95 {a b : Nat} (h0 : a + 1 + 1≤b) : a + 1≤b := by exact Nat.le_of_lt h0
theorem o96 {a b : Nat} (h0 : a + 1 + 1 < b) : a + 1 < b := by exact Nat.lt_of_succ_lt h0
theorem o97 {a b c d e f k l m : Nat} (h0 : a = b∨a = c∨a = d∨a = e∨a = f∨a = k∨a = l∨a = m) (h1 : a≠b∧a≠c∧a≠d∧a≠e∧a≠f∧a≠k∧a≠l∧a≠m) : False := by simp_all
theorem o98 {a b c d e f k l : Nat} : a = a∨a = b∨a = c∨a = d∨a = e∨a = f∨a = k∨a = l := by exact .inl rfl
theorem o99 {a b c d e f k l : Nat} : a = b∨a = a∨a = c∨a = d∨a = e∨a = f∨a = k∨a = l := by exact .inr (.inl rfl)
theorem o100 {a b c d e f k l : Nat} : a = b∨a = c∨a = a∨a = d∨a = e∨a = f∨a = k∨a = l := by simp
theorem o101 {a b c d e f k l : Nat} : a = b∨a = c∨a = d∨a = a∨a = e∨a = f∨a = k∨a = l := by simp
theorem o102 {a b c d e f k l : Nat} : a = b∨a = c∨a = d∨a = e∨a = a∨a = f∨a = k∨a = l := by simp
theorem o103 {a b c d e f k l : Nat} : a = b∨a = c∨a = d∨a = e∨a = f∨a = a∨a = k∨a = l := by simp
theorem o104 {a b c d e f k l : Nat} : a = b∨a = c∨a = d∨a = e∨a = f∨a = k∨a = a∨a = l := by simp
theorem o105 {a b c d e f k l : Nat} : a = b∨a = c∨a = d∨a = e∨a = f∨a = k∨a = l∨a = a := by simp
theorem o106 {a : Nat} (h0 : a≤999999) : a < 16777216 := by exact Nat.lt_of_le_of_lt h0 (Nat.le_add_left _ _)
theorem o107 {a : Nat} (h0 : a < 1000000) : a≤999999 := by exact Nat.le_of_lt_succ h0
theorem o108 {a b : Nat} (h0 : a + b≤1000000) : a + b≤16777216 := by exact Nat.le_trans h0 (Nat.le_add_left _ _)
theorem o109 {a : Nat} (h0 : a < 1000) : a≤999999 := by exact Nat.le_trans (Nat.le_of_lt h0) (Nat.le_of_ble_eq_true rfl)
theorem o110 {a : Nat} (h0 : a≤999999) : a < 1000000 := by exact Nat.succ_le_succ h0
theorem o111 {a b : Nat} (h0 : a + (b + 1)≤999998) : a + (b + 1) + 1 < 1000000 := by lia
theorem o112 {a b : Nat} (h0 : a + (b + 1) < 1000) : a < 1000 := by exact Nat.lt_of_le_of_lt (Nat.le_add_right _ _) h0
theorem o113 {a b : Nat} (h0 : a + (b + 1)≤999998) : a + (b + 1) < 1000000 := by exact Nat.lt_of_le_of_lt h0 (Nat.le_succ _)
theorem o114 {a b : Nat} (h0 : a + (b + 1)≤999998) : a + (b + 1)≤1000000 := by exact Nat.le_trans h0 (Nat.le_add_left _ _)
theorem o115 {a b : Nat} (h0 : a + (b + 1) < 1000) : a + 1 + b < 1000 := by exact Nat.lt_of_le_of_lt (Nat.le_of_eq (Nat.add_right_comm _ _ _)) h0
theorem o116 {a b : Nat} (h0 : a + 1 < b + 1) : a < b := by exact Nat.lt_of_succ_lt_succ h0
theorem o117 {a b : Nat} (h0 : a + (b + 1)≤999999) : a + (b + 1) < 1000000 := by exact Nat.succ_le_succ h0
theorem o118 {a b : Nat} (h0 : a + (b + 1)≤999999) : a + (b + 1)≤1000000 := by exact Nat.le_succ_of_le h0
theorem o119 {a : Nat} (h0 : a = 10∨a = 9∨a = 13∨a = 32) (h1 : ¬a = 10∧¬a = 9∧¬a = 13) (h2 : ¬a = 34∧¬a = 92∧¬a = 32) : False := by simp_all
theorem o120 {a b : Nat} (h0 : a + b≤999999) : a + b < 1000000 := by exact Nat.succ_le_succ h0
theorem o121 {a b : Nat} (h0 : a + b≤999999) : a + b≤1000000 := by exact Nat.le_succ_of_le h0
theorem o122 {a b c : Int} : a + (b + c) = a + b + c := by lia
theorem o123 {a : Nat} (h0 : a < 1000) : a + 1≤16777216 := by exact Nat.le_trans h0 (Nat.le_add_left _ _)
theorem o124 {a : Nat} (h0 : a < 1000) : a < 16777216 := by exact Nat.lt_of_lt_of_le h0 (Nat.le_add_left _ _)
theorem o125 {a : Nat} (h0 : a < 1000) : a≤16777216 := by exact Nat.le_trans (Nat.le_of_lt h0) (Nat.le_of_ble_eq_true rfl)
theorem o126 {a b c : Nat} (h0 : a + b + 5 < c) (h1 : b < 900) : c - a + a = c := by lia
theorem o127 {a b c : Nat} (h0 : a + (b + (c + 1) + 1)≤1000000) : b + (c + 1) < 1000000 := by exact Nat.lt_of_le_of_lt (Nat.le_add_left _ _) h0
theorem o128 {a b c : Nat} (h0 : a + (b + (c + 1) + 1)≤1000000) : b + (c + 1)≤1000000 := by exact Nat.lt_trans (Nat.le_add_left _ _) h0
theorem o129 {a : Nat} (h0 : a < 900) : a < 1000 := by exact Nat.lt_of_lt_of_le h0 (Nat.le_add_left _ _)
theorem o130 {a b c : Nat} (h0 : a + b + 5 < c) : b < c := by lia
theorem o131 {a b c : Nat} (h0 : a + b + 5 < c) (h1 : b < 900) : c - a = c - a - 1 + 1 := by exact (Nat.sub_add_cancel (Nat.sub_pos_of_lt (Nat.lt_of_le_of_lt (Nat.le_trans (Nat.le_add_right a b) (Nat.le_add_right _ 5)) h0))).symm
theorem o132 {a b c : Nat} (h0 : a + (b + (c + 1) + 1 + 1)≤1000000) : b + (c + 1) + 1 < 1000000 := by exact Nat.lt_of_le_of_lt (Nat.le_add_left _ _) h0
theorem o133 {a b c : Nat} (h0 : a + (b + (c + 1) + 1 + 1)≤1000000) : b + (c + 1) < 1000000 := by exact Nat.lt_trans (Nat.le_add_left _ _) h0
theorem o134 {a b c : Nat} (h0 : a + (b + (c + 1) + 1 + 1)≤1000000) : b + (c + 1)≤1000000 := by lia
theorem o135 {a : Nat} (h0 : a + 1 < 900) : 1 + a < 1000 := by lia
theorem o136 {a b c : Nat} (h0 : a + (b + 1) + 5 < c) : b < c := by lia
theorem o137 {a b c : Nat} (h0 : a + (b + 1) + 5 < c) (h1 : b + 1 < 900) : c - a = c - a - 1 + 1 := by exact (Nat.sub_add_cancel (Nat.sub_pos_of_lt (Nat.lt_of_le_of_lt (Nat.le_trans (Nat.le_add_right a (b + 1)) (Nat.le_add_right _ 5)) h0))).symm
theorem o138 {a b : Nat} (h0 : a + 5 < b) : b - a + a = b := by lia
theorem o139 {a b : Nat} (h0 : a < b) : ¬a = b := by lia
theorem o140 {a b : Nat} (h0 : a + 5 < b) : b - a = b - a - 1 + 1 := by exact (Nat.sub_add_cancel (Nat.sub_pos_of_lt (Nat.lt_of_le_of_lt (Nat.le_add_right a 5) h0))).symm
theorem o141 {a : Nat} (h0 : a≤1000) : a≤16777216 := by exact Nat.le_trans h0 (Nat.le_add_left _ _)
theorem o142 {a : Nat} (h0 : a < 256) : (↑a : Int) < 256 := by exact Int.ofNat_lt.mpr h0
theorem o145 {a : Nat} (h0 : a≤900) : a≤1000 := by exact Nat.le_trans h0 (Nat.le_add_left _ _)
theorem o146 {a b : Nat} (h0 : a≤900) (h1 : b≤2 * a) : b≤1000000 := by lia
theorem o147 {a b : Nat} (h0 : a≤900) (h1 : b≤2 * a) : 0 + 1 + b≤1000000 := by lia
theorem o148 {a b : Nat} (h0 : a≤900) (h1 : b≤2 * a) : 0 + 1 + b + (0 + 1)≤1000000 := by lia
theorem o149 {a : Int} (h0 : 0≤a / 2 % 3) : a / 2 % 3 = (↑(a / 2 % 3).toNat : Int) := by lia
theorem o150 {a : Nat} (h0 : (↑a : Int) < 3) : a = 0∨a = 1∨a = 2 := by lia
theorem o151 {a b : Nat} (h0 : a≤900) (h1 : b≤2 * a) : b + (0 + 1)≤1000000 := by lia
theorem o152 {a : Int} {b : Nat} (h0 : 0≤a / 2 % 3) (h1 : a / 2 % 3 = (↑b : Int)) : b = 0∨b = 1∨b = 2 := by lia
theorem o153 {a : Nat} (h0 : 8 < a) : a = a - 4 + 4 := by lia
theorem o154 {a b c : Nat} : ((0 * 256 + (↑a : Int)) * 256 + (↑b : Int)) * 256 + (↑c : Int) = (↑(a * 65536 + b * 256 + c) : Int) := by lia
theorem o155 {a : Nat} (h0 : a≤3) : 0≤(↑a : Int) := by exact Int.natCast_nonneg _
theorem o156 {a : Nat} (h0 : a≤3) : (↑a : Int)≤64 := by lia
theorem o157 {a : Nat} (h0 : a≤3) : a = 0∨a = 1∨a = 2∨a = 3 := by lia
theorem o158 {a b : Nat} (h0 : a = b) (h1 : 0 < a∧a < 1073741824) : 0 < (↑a : Int) := by simp_all
theorem o159 {a b : Nat} (h0 : a = b) (h1 : 0 < a∧a < 1073741824) : (↑a : Int) < 1073741824 := by omega
theorem o160 {a : Nat} (h0 : 8 < a) : 4 < a := by lia
theorem o161 : 3≤3 := by lia
theorem o162 : 2≤3 := by lia
theorem o163 : 1≤3 := by lia
theorem o164 : 0≤3 := by lia
theorem o165 {a b c : Nat} (h0 : a < 256) (h1 : b < 256) (h2 : c < 256) : (a * 65536 + b * 256 + c) / 262144 % 64 = a / 4 := by rw [show (262144 : Nat) = 65536 * 4 from rfl,← Nat.div_div_eq_div_mul,Nat.add_assoc,(pk (k := 65536) (b16 h1 h2)).2]; exact Nat.mod_eq_of_lt (Nat.div_lt_of_lt_mul h0)
theorem o166 {a b c d : Nat} (h0 : a < 256) (h1 : b < 256) (h2 : c % 64 = d / 4) : (d * 65536 + a * 256 + b) / 4096 % 64 = d % 4 * 16 + a / 16 := by rw [Nat.add_assoc,shm (k := 4096) (j := 16) (n := 4) (Nat.le_of_ble_eq_true rfl) (b16 h0 h1),show (4096 : Nat) = 256 * 16 from rfl,← Nat.div_div_eq_div_mul,(pk (k := 256) h1).2]
theorem o167 {a b c d : Nat} (h0 : a < 256) (h1 : b % 64 = c % 4 * 16 + d / 16) : (c * 65536 + d * 256 + a) / 64 % 64 = d % 16 * 4 + a / 64 := by have e : c * 65536 + d * 256 = (c * 256 + d) * 256 := (by lia); rw [e]; exact (shm (k := 64) (j := 4) (n := 16) (Nat.le_of_ble_eq_true rfl) h0).trans (by rw [show c * 256 = 16 * (c * 16) by lia,Nat.mul_add_mod])
theorem o168 {a b c : Nat} : (a * 65536 + b * 256 + c) / 1 % 64 = c % 64 := by rw [Nat.div_one,Nat.add_assoc,show a * 65536 = 64 * (a * 1024) from (Nat.mul_left_comm 64 a 1024).symm,Nat.mul_add_mod,show b * 256 = 64 * (b * 4) from (Nat.mul_left_comm 64 b 4).symm,Nat.mul_add_mod]
theorem o169 {a : Nat} (h0 : a < 256) : 0≤(↑a : Int) := by lia
theorem o170 {a : Nat} (h0 : a < 256) : (↑a : Int)≤1114111 := by lia
theorem o171 {a : Nat} (h0 : 8 < a) : a = a - 5 + 5 := by lia
theorem o172 {a : Nat} (h0 : a < 256) : a / 4 < 64 := by lia
theorem o173 {a b : Nat} (h0 : a < 256) : b % 4 * 16 + a / 16 < 64 := by lia
theorem o174 {a b : Nat} (h0 : a < 256) : b % 16 * 4 + a / 64 < 64 := by lia
theorem o175 {a : Nat} : a % 64 < 64 := by lia
theorem o176 {a b : Nat} (h0 : a < 64) (h1 : b = 65 + a) (h2 : a < 26) : 65≤(↑b : Int) := by lia
theorem o177 {a b : Nat} (h0 : a < 64) (h1 : b = 65 + a) (h2 : a < 26) : (↑b : Int)≤90 := by exact Int.ofNat_le.mpr (h1 ▸ Nat.add_le_add_left (Nat.le_of_lt_succ h2) 65)
theorem o178 {a b : Nat} (h0 : a = 65 + b) : (↑a : Int) - 65 = (↑b : Int) := by lia
theorem o179 {a b : Nat} (h0 : a < 64) (h1 : b = 71 + a) (h2 : ¬a < 26) (h3 : a < 52) : 65≤(↑b : Int) := by lia
theorem o180 {a b : Nat} (h0 : a < 64) (h1 : b = 71 + a) (h2 : ¬a < 26) (h3 : a < 52) : ¬(↑b : Int)≤90 := by lia
theorem o181 {a b : Nat} (h0 : a < 64) (h1 : b = 71 + a) (h2 : ¬a < 26) (h3 : a < 52) : 97≤(↑b : Int) := by lia
theorem o182 {a b : Nat} (h0 : a < 64) (h1 : b = 71 + a) (h2 : ¬a < 26) (h3 : a < 52) : (↑b : Int)≤122 := by lia
theorem o183 {a b : Nat} (h0 : a = 71 + b) : (↑a : Int) - 71 = (↑b : Int) := by lia
theorem o184 {a b : Nat} (h0 : a < 64) (h1 : b = a - 4) (h2 : ¬a < 26) (h3 : ¬a < 52) (h4 : a < 62) : ¬65≤(↑b : Int) := by exact fun e => absurd (Nat.le_trans (Int.ofNat_le.mp e) (h1 ▸ Nat.sub_le_sub_right (Nat.le_of_lt_succ h4) 4)) (by decide)
theorem o185 {a b : Nat} (h0 : a < 64) (h1 : b = a - 4) (h2 : ¬a < 26) (h3 : ¬a < 52) (h4 : a < 62) : ¬97≤(↑b : Int) := by exact fun e => absurd (Nat.le_trans (Int.ofNat_le.mp e) (h1 ▸ Nat.sub_le_sub_right (Nat.le_of_lt_succ h4) 4)) (by decide)
theorem o186 {a b : Nat} (h0 : a < 64) (h1 : b = a - 4) (h2 : ¬a < 26) (h3 : ¬a < 52) (h4 : a < 62) : 48≤(↑b : Int) := by omega
theorem o187 {a b : Nat} (h0 : a < 64) (h1 : b = a - 4) (h2 : ¬a < 26) (h3 : ¬a < 52) (h4 : a < 62) : (↑b : Int)≤57 := by exact Int.ofNat_le.mpr (h1 ▸ Nat.sub_le_sub_right (Nat.le_of_lt_succ h4) 4)
theorem o188 {a b : Nat} (h0 : a < 64) (h1 : b = a - 4) (h2 : ¬a < 26) (h3 : ¬a < 52) (h4 : a < 62) : (↑b : Int) + 4 = (↑a : Int) := by rw [h1]; exact congrArg _ (Nat.sub_add_cancel (Nat.le_trans (by decide) (Nat.not_lt.mp h3)))
theorem o189 {a : Nat} (h0 : a < 64) (h1 : ¬a < 26) (h2 : ¬a < 52) (h3 : ¬a < 62) (h4 : ¬a = 62) : a = 63 := by lia
theorem o190 {a : Nat} (h0 : a≠61) : ¬(↑a : Int) = 61 := by lia
theorem o191 {a : Nat} (h0 : a < 64) : ¬64≤(↑a : Int) := by omega
theorem o192 {a : Nat} (h0 : a < 64) : a < 65536 := by exact Nat.lt_of_lt_of_le h0 (Nat.le_add_left _ _)
theorem o193 {a : Nat} (h0 : a < 64) : a / 16 < 4 := by exact Nat.div_lt_of_lt_mul h0
theorem o194 {a : Nat} (h0 : a < 64) : a / 4 < 16 := by exact Nat.div_lt_of_lt_mul h0
theorem o195 {a : Nat} (h0 : a < 64) : a < 64 := by exact h0
theorem o196 {a : Nat} : a % 16 < 64 := by lia
theorem o197 {a : Nat} : a % 4 < 64 := by lia
theorem o198 {a b : Nat} (h0 : a < 64) (h1 : b < 64) : a * 4 + b / 16 < 256 := by lia
theorem o199 {a b : Nat} (h0 : a < 64) : b % 16 * 16 + a / 4 < 256 := by lia
theorem o200 {a b : Nat} (h0 : a < 64) : b % 4 * 64 + a < 256 := by lia
theorem o201 {a b : Nat} (h0 : a < 256) : b / 4 * 4 + (b % 4 * 16 + a / 16) / 16 = b := by rw [(pk (Nat.div_lt_of_lt_mul h0)).2]; exact Nat.div_add_mod' b 4
theorem o202 {a b c : Nat} (h0 : a < 256) (h1 : b < 256) : (c % 4 * 16 + a / 16) % 16 * 16 + (a % 16 * 4 + b / 64) / 4 = a := by rw [(pk (k := 16) (Nat.div_lt_of_lt_mul h0)).1,(pk (k := 4) (Nat.div_lt_of_lt_mul h1)).2]; exact Nat.div_add_mod' a 16
theorem o203 {a b : Nat} (h0 : a < 256) : (b % 16 * 4 + a / 64) % 4 * 64 + a % 64 = a := by rw [(pk (k := 4) (Nat.div_lt_of_lt_mul h0)).1]; exact Nat.div_add_mod' a 64
theorem o204 {a : Nat} (h0 : a≤1000000) : 0≤(↑a : Int) := by exact Int.natCast_nonneg _
theorem o205 {a b : Nat} (h0 : a≤b) : (↑a : Int)≤(↑b : Int) := by exact Int.ofNat_le.mpr h0
theorem o206 {a b : Nat} (h0 : (↑a : Int)≤(↑b : Int)) : a≤b := by omega
theorem o207 {a : Nat} (h0 : a≤1000) : a≤1000000 := by exact Nat.le_trans h0 (Nat.le_add_left _ _)
theorem o208 {a : Nat} (h0 : a≤100000) : a≤16777216 := by exact Nat.le_trans h0 (Nat.le_add_left _ _)
theorem o209 {a b c d : Nat} (h0 : a≤b) (h1 : c≤d) : a + c≤b + d := by exact Nat.add_le_add h0 h1
theorem o210 {a : Nat} (h0 : a≤100) : a≤1000 := by exact Nat.le_trans h0 (Nat.le_add_left _ _)
theorem o211 {a : Nat} (h0 : a≤50000) : a≤100000 := by exact Nat.le_trans h0 (Nat.le_add_left _ _)
theorem o212 {a b c d : Nat} (h0 : a≤100) (h1 : b≤20000) (h2 : c < a) (h3 : d≤c * 1) : b + d≤50000 := by lia
theorem o213 {a b : Nat} (h0 : a < b) : b≠a := by exact Nat.ne_of_gt h0
theorem o214 {a b : Nat} (h0 : a < b) : a≤b := by exact Nat.le_of_lt h0
theorem o215 {a b : Nat} (h0 : a < b) : b - a = b - a - 1 + 1 := by exact (Nat.sub_add_cancel (Nat.sub_pos_of_lt h0)).symm
theorem o216 {a : Nat} (h0 : a≤100) (h1 : 0 < a) : a≤1000 := by lia
theorem o217 {a : Nat} (h0 : a≤100) (h1 : 0 < a) : a * 1≤100 := by exact Nat.le_trans (Nat.le_of_eq (Nat.add_comm _ _)) h0
theorem o218 {a b : Nat} (h0 : a≤100) (h1 : 0 < a) (h2 : b < a) : b≤100 := by exact Nat.le_trans (Nat.le_of_lt h2) h0
theorem o219 {a b c : Nat} (h0 : a≤100) (h1 : 0 < a) (h2 : b < a) (h3 : c≤b * 100) (h4 : b * 100≤100 * 100) : c≤20000 := by lia
theorem o220 {a b : Nat} (h0 : a≤100) (h1 : 0 < a) (h2 : b≤a * 100) : b≤10000 := by lia
theorem o221 {a : Nat} (h0 : a≤10000) : a≤16777216 := by exact Nat.le_trans h0 (Nat.le_add_left _ _)
theorem o222 {a : Nat} : a + 8≠a + 9 := by lia
theorem o223 {a : Nat} : a + 8≠a + 10 := by lia
theorem o224 {a : Nat} : a + 9≠a + 8 := by lia
theorem o225 {a : Nat} : a + 9≠a + 10 := by lia
theorem o226 {a : Nat} : a + 10≠a + 8 := by lia
theorem o227 {a : Nat} : a + 10≠a + 9 := by lia
theorem o228 {a b : Nat} (h0 : a = b + 8∨a = b + 9∨a = b + 10) : a≠b + 6∧a≠b + 5∧a≠b + 3∧a≠b + 4∧a≠b + 2∧a≠b∧a≠b + 1∧a≠b + 7 := by have e : b + 8≤a := (h0.elim (fun e => Nat.le_of_eq e.symm) fun h => h.elim (fun e => e ▸ Nat.le_succ _) fun e => e ▸ Nat.le_trans (Nat.le_succ _) (Nat.le_succ _)); exact ⟨gtk (by decide) e,gtk (by decide) e,gtk (by decide) e,gtk (by decide) e,gtk (by decide) e,gtk (j := 0) (by decide) e,gtk (by decide) e,gtk (by decide) e⟩
theorem o229 {a : Nat} : ¬a < a := by exact Nat.lt_irrefl _
theorem o230 {a : Nat} : ¬a + 1 = 0 := by exact Nat.succ_ne_zero _
theorem o231 {a b : Nat} (h0 : a < b) (h1 : ¬a + 1 < b) : a + 1 = b := by lia
theorem o232 {a b : Nat} (h0 : a < b) (h1 : a = b) : False := by omega
theorem o233 {a : Nat} {b : Int} {c : Nat} (h0 : a < 256) (h1 : b = (↑a : Int) - 240) : c % 4 * 16 + a / 16 < 64 := by lia
theorem o234 {a : Nat} {b : Int} {c : Nat} {d : Int} (h0 : a < 256) (h1 : b = (↑c : Int) - 240) (h2 : d = (↑a : Int)) : c % 16 * 4 + a / 64 < 64 := by lia
theorem o235 {a : Int} {b : Nat} (h0 : a = (↑b : Int)) : b % 64 < 64 := by exact Nat.mod_lt _ (Nat.le_of_ble_eq_true rfl)
theorem o236 {a : Nat} (h0 : a≤100) : a≤16777216 := by exact Nat.le_trans h0 (Nat.le_add_left _ _)
theorem o237 {a : Nat} : a + 10 = a + 8∨a + 10 = a + 9∨a + 10 = a + 10 := by exact .inr (.inr rfl)
theorem o238 {a b : Nat} (h0 : 1000 < a) (h1 : b = 4) : b < a := by lia
theorem o239 {a : Nat} (h0 : a = 4) : a≤1000 := by simp_all
theorem o240 {a : Nat} (h0 : 1000 < a) : 8 < a := by exact Nat.lt_of_le_of_lt (Nat.le_add_left _ _) h0
theorem o241 {a : Nat} (h0 : a≤100) : a < 16777216 := by exact Nat.lt_of_le_of_lt h0 (Nat.le_add_left _ _)
theorem o242 {a b : Nat} (h0 : 1000 < a) (h1 : b≤100) : b < a := by lia
theorem o243 {a : Nat} : a + 8 = a + 8∨a + 8 = a + 9∨a + 8 = a + 10 := by exact .inl rfl
theorem o244 {a : Nat} : (↑a : Int) + 1 = (↑(a + 1) : Int) := by exact Int.natCast_add _ _
theorem o245 {a b c d e : Nat} (h0 : a≤50) (h1 : b < a) (h2 : c≤b) (h3 : d + e = c) : d≤100 := by subst_vars; lia
theorem o246 {a b : Nat} (h0 : a≤50) (h1 : b < a) : b≤100 := by lia
theorem o247 {a b c : Nat} {d : Int} (h0 : a≤b) (h1 : b < a) : (↑c : Int)≤d := by exact absurd h1 (Nat.not_lt_of_le h0)
theorem o248 {a : Int} {b : Nat} (h0 : a≤(↑b : Int)) (h1 : ¬a≤(↑b : Int) - 1) : (↑b : Int)≤a := by lia
theorem o249 {a : Int} (h0 : 1≤a) : 0 < a := by exact h0
theorem o250 {a b : Nat} (h0 : a < b + 1) (h1 : ¬a = b) : a < b := by exact Nat.lt_of_le_of_ne (Nat.le_of_lt_succ h0) h1
theorem o251 {a b : Nat} (h0 : a≤50) (h1 : b < a) : a - (↑(b + 1) : Int).toNat < a - (↑b : Int).toNat := by exact Nat.sub_lt_sub_left h1 (Nat.lt_succ_self b)
theorem o252 {a b : Nat} (h0 : ¬a < b) : b≤a := by exact Nat.le_of_not_lt h0
theorem o253 {a : Int} {b : Nat} {c : Int} {d e : Nat} (h0 : ¬a≤(↑b : Int)) (h1 : c≤(↑b : Int)) (h2 : a≤c) : d < e := by lia
theorem o254 {a b c : Nat} (h0 : a≤b) (h1 : ¬a < b) (h2 : c < b) : c < a := by lia
theorem o255 {a b c : Nat} (h0 : a≤b) (h1 : c < a) : c < b := by exact Nat.lt_of_lt_of_le h1 h0
theorem o256 {a : Int} {b : Nat} (h0 : a≤(↑b : Int) - 1) : a≤(↑b : Int) := by lia
theorem o257 {a b c : Nat} (h0 : 1000 < a) (h1 : b≤50) (h2 : c≤b) : b - (↑c : Int).toNat < a := by exact Nat.lt_of_le_of_lt (Nat.sub_le _ _) (Nat.lt_of_le_of_lt h1 (Nat.lt_trans (by decide) h0))
theorem o258 {a : Nat} : a + 9 = a + 8∨a + 9 = a + 9∨a + 9 = a + 10 := by exact .inr (.inl rfl)
theorem o259 {a b c d e : Nat} (h0 : a≤50) (h1 : b≤a) (h2 : c≤b) (h3 : d + e = c) : d≤100 := by exact Nat.le_trans (h3 ▸ Nat.le_add_right d e) (Nat.le_trans h2 (Nat.le_trans h1 (Nat.le_trans h0 (by decide))))
theorem o260 {a : Nat} (h0 : 1≤a) (h1 : a≤1000) : a - 1≤100000 := by lia
theorem o261 {a : Nat} (h0 : 1≤a) (h1 : a≤1000) : a = a - 1 + 1 := by simp_all
theorem o264 {a b : Nat} {c : Prop} {d : Nat} (h0 : a≤b) (h1 : c) (h2 : ¬a < b) (h3 : d < a) : d < b := by exact Nat.lt_of_lt_of_le h3 h0
theorem o265 {a : Prop} {b : Int} {c : Nat} (h0 : a) (h1 : b≤(↑c : Int) - 1) : b≤(↑c : Int) := by lia
theorem o266 {a b : Nat} {c : Prop} (h0 : a≤900) (h1 : b≤a + 1) (h2 : c) : b≤1000 := by lia
theorem o267 {a : Nat} {b : Prop} (h0 : 1≤a) (h1 : b) : 1≤a + 1 := by exact Nat.zero_lt_succ _
theorem o268 {a b : Nat} {c : Prop} {d : Int} (h0 : a≤b + 1) (h1 : c) (h2 : (↑a : Int)≤d) (h3 : d≤(↑b : Int)) : a + 1≤b + 1 := by lia
theorem o269 {a : Prop} {b : Nat} {c : Int} (h0 : a) (h1 : (↑b : Int)≤c) : (↑(b + 1) : Int) - 1≤c := by simp_all
theorem o270 {a b : Nat} {c : Prop} (h0 : 1≤a) (h1 : a≤b + 1) (h2 : c) : b + 2 - (↑(a + 1) : Int).toNat < b + 2 - (↑a : Int).toNat := by exact Nat.sub_lt_sub_left (Nat.lt_succ_of_le h1) (Nat.lt_succ_self a)
theorem o271 {a b : Nat} {c : Prop} (h0 : a≤b) (h1 : c) (h2 : ¬a < b) : a = b := by lia
theorem o272 {a b : Nat} {c : Prop} (h0 : a≤900) (h1 : 1≤b) (h2 : b≤a + 1) (h3 : c) : b - 1≤1000 := by exact Nat.le_trans (Nat.sub_le_of_le_add h2) (Nat.le_trans h0 (by decide))
theorem o273 {a : Nat} {b : Prop} {c : Int} (h0 : 1≤a) (h1 : b) (h2 : ¬c≤(↑(a - 1) : Int)) : (↑a : Int)≤c := by omega
theorem o274 {a : Nat} {b : Int} (h0 : 1≤a) (h1 : (↑a : Int) - 1≤b) : (↑(a - 1) : Int)≤b := by omega
theorem o275 : 1≤1 := by exact Nat.le_refl _
theorem o276 {a : Nat} (h0 : a≤50) : 0≤a := by exact Nat.zero_le _
theorem o277 {a : Nat} (h0 : a≤900) : 1≤a + 1 := by exact Nat.zero_lt_succ _
theorem o278 {a b : Nat} (h0 : 1000 < a) (h1 : b≤900) : b + 2 - Int.toNat 1 < a := by lia
theorem o279 : 2 < 100 := by exact Nat.le_add_left _ _
theorem o280 : 3 < 100 := by exact Nat.le_add_left _ _
theorem o281 {a b c d : Nat} (h0 : a = b) (h1 : 0 < b) (h2 : c = b) (h3 : d = b) : 0 < a := by exact h0 ▸ h1
theorem o282 {a b c : Nat} (h0 : 0 < a) (h1 : b = a) (h2 : c = a) : 0 < b := by exact h1 ▸ h0
theorem o283 {a : Nat} : a + 1≠a + 7 := by lia
theorem o284 {a : Prop} {b : Nat} (h0 : a) (h1 : ¬b = 0) : 0≠b := by lia
theorem o285 {a b c d : Nat} {e : Prop} {f : Nat} (h0 : a = b) (h1 : c = b) (h2 : d = b) (h3 : e) (h4 : f < a) : ¬f = b + 5∧¬f = b + 1∧¬f = b + 7∧¬f = b + 8∧¬f = b + 9∧¬f = b + 10 := by exact ⟨ltk h0 h4,ltk h0 h4,ltk h0 h4,ltk h0 h4,ltk h0 h4,ltk h0 h4⟩
theorem o286 {a : Int} {b : Nat} (h0 : 0≤(a / 2 + (↑b : Int)) % 3) : 0≤(a / 2 + (↑b : Int)) % 3∧(a / 2 + (↑b : Int)) % 3≤2 := by exact ⟨h0,Int.le_of_lt_add_one (Int.emod_lt_of_pos _ (by decide))⟩
theorem o287 {a : Int} (h0 : 0≤a / 5 % 2) (h1 : 0≤a % 16) (h2 : 0≤a / 16 % 3) : (251 + a / 5 % 2 * 4).toNat < 256∧(240 + a % 16).toNat < 256∧(1 + a / 16 % 3).toNat < 256∧(↑(251 + a / 5 % 2 * 4).toNat : Int) = 251 + a / 5 % 2 * 4∧(↑(240 + a % 16).toNat : Int) = 240 + a % 16∧(↑(1 + a / 16 % 3).toNat : Int) = 1 + a / 16 % 3∧1≤1 + a / 16 % 3∧1 + a / 16 % 3≤3 := by have k : ∀ {m n x : Int},0≤x→0≤m→m + x < n→(m + x).toNat < n.toNat∧((m + x).toNat : Int) = m + x := (fun {m n x} p q r => ⟨(Int.toNat_lt_toNat (Int.lt_of_le_of_lt (Int.add_nonneg q p) r)).mpr r,Int.toNat_of_nonneg (Int.add_nonneg q p)⟩); have u0 : a / 5 % 2 < 2 := (Int.emod_lt_of_pos _ (by decide)); have u1 : a % 16 < 16 := (Int.emod_lt_of_pos _ (by decide)); have u2 : a / 16 % 3 < 3 := (Int.emod_lt_of_pos _ (by decide)); generalize a / 5 % 2 = x at h0 u0; generalize a / 16 % 3 = y at h2 u2; generalize a % 16 = z at h1 u1; have k0 := k (m := 251) (n := 256) (Int.mul_nonneg h0 (show (0 : Int)≤4 by decide)) (by decide) (by lia); have k1 := k (m := 240) (n := 256) h1 (by decide) (by lia); have k2 := k (m := 1) (n := 256) h2 (by decide) (by lia); exact ⟨k0.1,k1.1,k2.1,k0.2,k1.2,k2.2,by lia,by lia⟩
theorem o288 {a : Nat} (h0 : a≤0) : a = 0 := by exact Nat.eq_zero_of_le_zero h0
theorem o289 {a b : Nat} (h0 : a≤b + 1) (h1 : ¬a = b + 1) : a≤b := by lia
theorem o290 {a b c : Int} (h0 : a≤b) (h1 : 0≤c∧c≤2) : a≤b + c := by omega
theorem o291 {a : Int} {b : Nat} {c : Int} (h0 : 1≤a∧a≤1 + 2 * (↑b : Int)) (h1 : 0≤c∧c≤2) : 1≤a + c∧a + c≤1 + 2 * (↑(b + 1) : Int) := by lia
theorem o292 {a b c : Nat} (h0 : a≤b) (h1 : b < c) : a < c := by exact Nat.lt_of_le_of_lt h0 h1
theorem o293 {a b : Nat} : a + (b + 1) = a + 1 + b := by lia
theorem o294 {a b c : Nat} (h0 : a < b) (h1 : b - a = c + 1) : b - (a + 1) = c := by rw [Nat.sub_add_eq,h1]; rfl
theorem o295 {a b : Nat} (h0 : 0 < a) (h1 : a - 0 = b + 1) : a = b + 1 := by exact h1
theorem o296 {a : Nat} : 1 + (↑a : Int) = (↑a : Int) + 1 := by exact Int.add_comm _ _
theorem o297 {a : Int} (h0 : 0≤a∧a≤2) : (↑a.toNat : Int) = a := by exact Int.toNat_of_nonneg h0.1
theorem o298 {a : Int} (h0 : 0≤a∧a≤2) : a.toNat≤2 := by simp_all
theorem o303 {a b c : Nat} (h0 : a≤2 * b∧c≤2 * b) (h1 : b = 4) : a + (0 + 1) + 1≤20 := by lia
theorem o304 {a b c : Nat} (h0 : a≤2 * b∧c≤2 * b) (h1 : b = 4) : c + (0 + 1)≤20 := by lia
theorem o305 {a b c d : Nat} (h0 : a≤22 * b) (h1 : c≤20) (h2 : d≤2) : c + d + a≤22 * (b + 1) := by lia
theorem o306 {a b : Nat} (h0 : a≤22 * b) : a≤22 * b + 2 := by exact Nat.le_trans h0 (Nat.le_add_right _ _)
theorem o307 {a b c d : Nat} (h0 : a≤22 * (b - c)) (h1 : d≤2) : d + a≤22 * b + 2 := by lia
theorem o308 {a b c : Nat} {d : Int} (h0 : a < 256∧b < 256∧c < 256∧(↑a : Int) = 251 + d / 5 % 2 * 4∧(↑b : Int) = 240 + d % 16∧(↑c : Int) = 1 + d / 16 % 3∧1≤1 + d / 16 % 3∧1 + d / 16 % 3≤3) : a / 4 < 64 := by exact Nat.div_lt_of_lt_mul h0.1
theorem o309 {a b c : Nat} {d : Int} (h0 : a < 256∧b < 256∧c < 256∧(↑a : Int) = 251 + d / 5 % 2 * 4∧(↑b : Int) = 240 + d % 16∧(↑c : Int) = 1 + d / 16 % 3∧1≤1 + d / 16 % 3∧1 + d / 16 % 3≤3) : a % 4 * 16 + b / 16 < 64 := by exact m4 h0.2.1
theorem o310 {a b c : Nat} {d : Int} (h0 : a < 256∧b < 256∧c < 256∧(↑a : Int) = 251 + d / 5 % 2 * 4∧(↑b : Int) = 240 + d % 16∧(↑c : Int) = 1 + d / 16 % 3∧1≤1 + d / 16 % 3∧1 + d / 16 % 3≤3) : b % 16 * 4 + c / 64 < 64 := by exact m16 h0.2.2.1
theorem o311 {a b c : Nat} {d : Int} (h0 : a < 256∧b < 256∧c < 256∧(↑a : Int) = 251 + d / 5 % 2 * 4∧(↑b : Int) = 240 + d % 16∧(↑c : Int) = 1 + d / 16 % 3∧1≤1 + d / 16 % 3∧1 + d / 16 % 3≤3) : c % 64 < 64 := by exact Nat.mod_lt _ (Nat.le_of_ble_eq_true rfl)
theorem o312 {a : Int} : a % 16 = 240 + a % 16 - 240 := by lia
theorem o313 {a b c : Nat} (h0 : a = b) (h1 : c < b) : c - 1 < b := by exact Nat.lt_of_le_of_lt (Nat.sub_le _ _) h1
theorem o314 {a : Nat} (h0 : ¬a = 0) : a = a - 1 + 1 := by exact (Nat.sub_add_cancel (Nat.pos_of_ne_zero h0)).symm
theorem o315 {a b c d e : Nat} (h0 : 0 < a) (h1 : a≤20) (h2 : b = a) (h3 : c + (d + (e + 1) + 1)≤22 * a + 2) : c + (d + (e + 1) + 1)≤1000000 := by lia
theorem o316 {a b c : Nat} (h0 : 1000 < a) (h1 : b≤2) (h2 : c = 4) : b + c + 5 < a := by lia
theorem o317 {a : Nat} (h0 : a = 4) : a < 900 := by simp_all
theorem o318 {a b c d e : Nat} (h0 : 0 < a) (h1 : a≤20) (h2 : b = a) (h3 : c + (d + (e + 1))≤22 * a + 2) : c + (d + (e + 1))≤1000000 := by lia
theorem o319 {a b : Nat} (h0 : 0 < a) (h1 : a≤20) (h2 : b = a) : ¬a = 0 := by exact Nat.ne_of_gt h0
theorem o320 {a : Nat} (h0 : a≤2) : a≤1000000 := by exact Nat.le_trans h0 (Nat.le_add_left _ _)
theorem o321 {a b : Nat} (h0 : 1000 < a) (h1 : b≤2) : b + 5 < a := by lia
theorem o322 {a : Nat} (h0 : 1000 < a) : 5 < a := by exact Nat.lt_of_le_of_lt (Nat.le_add_left _ _) h0
theorem o325 {a b c : Nat} {d : Int} (h0 : a = b) (h1 : c < b) (h2 : d≤1 + 2 * (↑c : Int)) : d≤1 + 2 * (↑b : Int) := by lia
theorem o326 {a b c : Nat} {d : Int} (h0 : a < 256∧b < 256∧c < 256∧(↑a : Int) = 251 + d / 5 % 2 * 4∧(↑b : Int) = 240 + d % 16∧(↑c : Int) = 1 + d / 16 % 3∧1≤1 + d / 16 % 3∧1 + d / 16 % 3≤3) : 0≤251 + d / 5 % 2 * 4 := by lia
theorem o327 {a b c : Nat} {d : Int} (h0 : a < 256∧b < 256∧c < 256∧(↑a : Int) = 251 + d / 5 % 2 * 4∧(↑b : Int) = 240 + d % 16∧(↑c : Int) = 1 + d / 16 % 3∧1≤1 + d / 16 % 3∧1 + d / 16 % 3≤3) : 251 + d / 5 % 2 * 4 < 256 := by rw [← h0.2.2.2.1]; exact Int.ofNat_lt.mpr h0.1
theorem o328 {a b c : Nat} {d : Int} (h0 : a < 256∧b < 256∧c < 256∧(↑a : Int) = 251 + d / 5 % 2 * 4∧(↑b : Int) = 240 + d % 16∧(↑c : Int) = 1 + d / 16 % 3∧1≤1 + d / 16 % 3∧1 + d / 16 % 3≤3) : 0≤240 + d % 16 := by rw [← h0.2.2.2.2.1]; exact Int.natCast_nonneg b
theorem o329 {a b c : Nat} {d : Int} (h0 : a < 256∧b < 256∧c < 256∧(↑a : Int) = 251 + d / 5 % 2 * 4∧(↑b : Int) = 240 + d % 16∧(↑c : Int) = 1 + d / 16 % 3∧1≤1 + d / 16 % 3∧1 + d / 16 % 3≤3) : 240 + d % 16 < 256 := by grind
theorem o330 {a b c : Nat} {d : Int} (h0 : a < 256∧b < 256∧c < 256∧(↑a : Int) = 251 + d / 5 % 2 * 4∧(↑b : Int) = 240 + d % 16∧(↑c : Int) = 1 + d / 16 % 3∧1≤1 + d / 16 % 3∧1 + d / 16 % 3≤3) : 0≤1 + d / 16 % 3 := by rw [← h0.2.2.2.2.2.1]; exact Int.natCast_nonneg c
theorem o331 {a b c : Nat} {d : Int} (h0 : a < 256∧b < 256∧c < 256∧(↑a : Int) = 251 + d / 5 % 2 * 4∧(↑b : Int) = 240 + d % 16∧(↑c : Int) = 1 + d / 16 % 3∧1≤1 + d / 16 % 3∧1 + d / 16 % 3≤3) : 1 + d / 16 % 3 < 256 := by rw [← h0.2.2.2.2.2.1]; exact Int.ofNat_lt.mpr h0.2.2.1
theorem o332 {a b c d : Nat} (h0 : a≤22 * b) (h1 : c≤20) (h2 : d≤2) : a + c + d≤22 * (b + 1) := by lia
theorem o333 {a : Nat} (h0 : a≤20) : a≤100 := by exact Nat.le_trans h0 (Nat.le_add_left _ _)
theorem o334 {a b : Nat} (h0 : a≤20) (h1 : b < a) : b≤16777216 := by omega
theorem o335 {a b : Nat} (h0 : a≠0) (h1 : b≠0) : a≠0 := by exact h0
theorem o336 {a b c : Nat} (h0 : a≠b∧a≠c∧b≠c) (h1 : b≠0) (h2 : c≠0) : b≠a := by lia
theorem o337 {a b c : Nat} (h0 : a≠b∧a≠c∧b≠c) (h1 : b≠0) (h2 : c≠0) : b≠c := by simp_all
theorem o338 {a : Nat} (h0 : a≠0) : a≠0 := by exact h0
theorem o339 {a b c : Nat} (h0 : a≠b∧a≠c∧b≠c) (h1 : b≠0) (h2 : c≠0) : c≠a := by lia
theorem o340 {a b c : Nat} (h0 : a≠b∧a≠c∧b≠c) (h1 : b≠0) (h2 : c≠0) : c≠b := by lia
theorem o341 {a b : Nat} (h0 : a≤20) (h1 : b < a) : b + 1≤16777216 := by lia
theorem o342 {a : Nat} (h0 : a = 4) : a≤900 := by simp_all
theorem o343 {a b c d : Nat} (h0 : a≤20) (h1 : b < a) (h2 : c≤22 * b) (h3 : d≤20) : c + d≤1000000 := by lia
theorem o344 {a : Int} {b : Nat} (h0 : 0≤(a / 2 + (↑b : Int)) % 3∧(a / 2 + (↑b : Int)) % 3≤2) : (a / 2 + (↑b : Int)) % 3≤3 := by exact Int.le_trans h0.2 (by decide)
theorem o345 {a b c d e : Nat} (h0 : a≤20) (h1 : b < a) (h2 : c≤22 * b) (h3 : d≤20) (h4 : e≤2) : c + d + e≤1000000 := by lia
theorem o346 {a : Nat} (h0 : a≤100) : a≤1000000 := by exact Nat.le_trans h0 (Nat.le_add_left _ _)
theorem o347 {a b : Int} {c d : Nat} (h0 : a = b) (h1 : (↑c : Int) = (↑d : Int)) : ¬¬(b < a∨b = a∧d≤c) := by omega
theorem o348 {a b : Int} (h0 : a≤b) : max a b = b := by lia
theorem o349 {a b : Int} (h0 : ¬a≤b) : max a b = a := by lia
theorem o350 {a b c : Int} (h0 : max a b≤c) : a≤c := by exact Int.le_trans (Int.le_max_left a b) h0
theorem o351 {a b c : Int} (h0 : max a b≤c) : b≤c := by lia
theorem o352 {a b c d : Int} (h0 : a≤b) (h1 : c≤d) (h2 : b≤c) (h3 : d≤a) : a = c := by lia
theorem o353 {a b c : Nat} (h0 : a = b) (h1 : b≤100) (h2 : c = b) : b≤100000 := by exact Nat.le_trans h1 (Nat.le_add_left _ _)
theorem o354 {a b c : Nat} (h0 : a = b) (h1 : b≤100) (h2 : c = b) : a≤16777216 := by lia
theorem o355 {a b c d : Nat} (h0 : a = b) (h1 : c = b) (h2 : d < b) : d < a := by lia
theorem o356 {a : Nat} : (↑(a + 1) : Int) = 1 + (↑a : Int) := by lia
theorem o357 {a : Nat} (h0 : a≤5000) : a≤16777216 := by exact Nat.le_trans h0 (Nat.le_add_left _ _)
theorem o358 {a : Nat} : min 5 a≤5 := by exact Nat.min_le_left _ _
theorem o359 {a : Int} (h0 : 0≤a % 5) : a % 5 = (↑(a % 5).toNat : Int) := by lia
theorem o360 {a : Int} {b : Nat} (h0 : 0≤a % 5) (h1 : a % 5 = (↑b : Int)) : b = 0∨b = 1∨b = 2∨b = 3∨b = 4 := by lia
theorem o361 {a b : Nat} (h0 : a = 16777216) : min 5 b + 3≤a := by lia
theorem o362 {a : Nat} (h0 : a≤8) : a≤16777216 := by exact Nat.le_trans h0 (Nat.le_add_left _ _)
theorem o363 {a : Nat} (h0 : a≤20) : a≤16777216 := by exact Nat.le_trans h0 (Nat.le_add_left _ _)
theorem o364 {a : Nat} (h0 : a≤20) : a≤1000000 := by exact Nat.le_trans h0 (Nat.le_add_left _ _)
theorem o365 {a b : Nat} (h0 : 1000 < a) (h1 : b≤20) : b < a := by lia
theorem o366 {a b : Nat} (h0 : a = b) (h1 : b≤100) : a≤16777216 := by lia
theorem o367 {a b c : Nat} (h0 : a = b) (h1 : 0 < b) (h2 : b≤100) (h3 : c = b) : a≤16777216 := by exact Nat.le_trans (h0 ▸ h2) (Nat.le_of_ble_eq_true rfl)
theorem o368 {a b c : Nat} (h0 : a = b) (h1 : 0 < b) (h2 : b≤100) (h3 : c = b) (h4 : b = 0) : False := by lia
theorem o369 {a b c : Nat} (h0 : a = b) (h1 : 0 < b) (h2 : b≤100) (h3 : c = b) : b≤100000 := by lia
theorem o370 {a b c d : Nat} (h0 : a < b) (h1 : c = a) (h2 : d = a) : c < b := by lia
theorem o371 {a b c : Nat} (h0 : a = b) (h1 : 0 < b) (h2 : b≤100) (h3 : c = b) : a≤100 := by exact h0 ▸ h2
theorem o372 {a b c : Nat} (h0 : a = b) (h1 : 0 < b) (h2 : b≤100) (h3 : c = b) : 0 < a := by lia
theorem o373 {a b c : Nat} (h0 : a < b) (h1 : c = a) : c < b := by subst_vars; assumption
theorem o374 {a b : Nat} (h0 : a = b) (h1 : b≤100) : a≤1000 := by subst_vars; exact Nat.le_trans h1 (Nat.le_of_ble_eq_true rfl)
theorem o375 {a : Nat} (h0 : 0 < a) (h1 : a≤100) (h2 : a = 0) : False := by lia
theorem o376 {a b c : Int} {d : Nat} (h0 : a = b) (h1 : c≤b) (h2 : (↑d : Int)≤c) (h3 : a≤(↑d : Int)) : b = (↑d : Int) := by lia
theorem o377 {a : Nat} {b : Prop} (h0 : 0 < a) (h1 : a≤100) (h2 : b) (h3 : a = 0) : False := by lia
theorem o378 {a : Nat} {b : Prop} (h0 : 0 < a) (h1 : a≤100) (h2 : b) : a≤100000 := by lia
theorem o379 {a : Nat} {b : Prop} {c : Int} (h0 : a≤900) (h1 : b) (h2 : c = (↑a : Int)) : ((↑a : Int) + 1 - 1).toNat = a := by simp
theorem o380 {a : Nat} {b : Prop} {c : Int} (h0 : a≤900) (h1 : b) (h2 : c = (↑a : Int)) : ((↑a : Int) + 1).natAbs≤1000000 := by exact Nat.lt_of_le_of_lt h0 (Nat.le_add_left _ _)
theorem o381 {a : Nat} {b : Prop} {c : Int} (h0 : a≤900) (h1 : b) (h2 : c = (↑a : Int)) : 1≤(↑a : Int) + 1 := by lia
theorem o382 {a b : Nat} {c : Prop} (h0 : a = b) (h1 : 0 < b) (h2 : b≤100) (h3 : c) (h4 : 0 = a) : False := by simp_all
theorem o383 {a : Nat} {b : Prop} (h0 : 0 < a) (h1 : a≤100) (h2 : b) (h3 : 0 = a) : False := by omega
theorem o384 {a b : Nat} {c : Prop} (h0 : 1000 < a) (h1 : 0 < b) (h2 : b≤100) (h3 : c) : b < a := by lia
theorem o385 {a : Nat} {b : Prop} {c : Int} {d : Nat} (h0 : a≤900) (h1 : b) (h2 : c = (↑a : Int)) (h3 : d < a) : d≤5000 := by lia
theorem o386 {a : Prop} {b : Int} {c d : Nat} (h0 : a) (h1 : b = (↑c : Int)) (h2 : d < c) : d + 1≤c := by exact h2
theorem o387 {a : Nat} {b : Prop} {c : Int} (h0 : a≤900) (h1 : b) (h2 : c = (↑a : Int)) : 0≤a := by exact Nat.zero_le _
theorem o388 {a b : Nat} {c : Prop} {d : Int} (h0 : 1000 < a) (h1 : b≤900) (h2 : c) (h3 : d = (↑b : Int)) : b < a := by lia
theorem o389 {a : Nat} (h0 : a≤8∧3≤a) : a≤20 := by lia
theorem o390 {a b c d : Nat} (h0 : a = b) (h1 : b≤8∧3≤b) (h2 : c = b) (h3 : d = b) : 0 < b := by lia
theorem o391 {a b c d : Nat} (h0 : a = b) (h1 : b≤8∧3≤b) (h2 : c = b) (h3 : d = b) : b≤20 := by lia
theorem o392 {a b c d : Nat} (h0 : a = b) (h1 : b≤8∧3≤b) (h2 : c = b) (h3 : d = b) : d≤50 := by lia
theorem o393 : 900≤900 := by exact Nat.le_refl _
theorem o394 {a b c d e : Nat} (h0 : a = b) (h1 : b≤8∧3≤b) (h2 : c = b) (h3 : d = b) (h4 : e≤22 * b + 2) : e≤100000 := by lia
theorem o395 {a b c d : Nat} {e : Prop} (h0 : a = b) (h1 : b≤8∧3≤b) (h2 : c = b) (h3 : d = b) (h4 : e) : c≤16777216 := by lia
theorem o396 {a b c d : Nat} {e : Prop} (h0 : a = b) (h1 : b≤8∧3≤b) (h2 : c = b) (h3 : d = b) (h4 : e) : b < 2000 := by lia
theorem o397 {a b c d : Nat} {e : Prop} (h0 : a = b) (h1 : b≤8∧3≤b) (h2 : c = b) (h3 : d = b) (h4 : e) : b≤100 := by lia
theorem o398 {a b c d : Nat} {e : Prop} (h0 : a = b) (h1 : b≤8∧3≤b) (h2 : c = b) (h3 : d = b) (h4 : e) : 0 < b := by lia
theorem o399 {a : Prop} {b c : Nat} (h0 : a) (h1 : b < c) : ¬b = c := by exact Nat.ne_of_lt h1
theorem o400 {a : Nat} (h0 : 0≤(↑a : Int)∧(↑a : Int)≤3) : a≤3 := by omega
theorem o401 {a : Int} (h0 : 0 < a∧a < 1073741824) : a≠0 := by omega
theorem o402 {a : Int} (h0 : 0 < a∧a < 1073741824) : a.natAbs < 1073741824 := by exact Int.ofNat_lt.mp (by rw [Int.natAbs_of_nonneg (Int.le_of_lt h0.1)]; exact h0.2)
theorem o403 {a : Int} (h0 : 0 < a∧a < 1073741824) : 0≤a := by lia
theorem o404 {a b : Int} (h0 : 0≤a∧a≤64∧0≤b∧b.toNat < 18446744073709551616) : 0≤a := by simp_all
theorem o405 {a b : Int} (h0 : 0≤a∧a≤64∧0≤b∧b.toNat < 18446744073709551616) : a≤1000000 := by lia
theorem o406 {a : Int} (h0 : 0≤a∧a≤64) : 0≤a := by simp_all
theorem o407 {a b : Int} (h0 : 0≤a∧a≤64∧0≤b∧b.toNat < 18446744073709551616) : a≤64 := by lia
theorem o408 {a b c : Nat} (h0 : 0 = a) (h1 : b < a) (h2 : b < c) : False := by lia
theorem o409 {a b c : Nat} (h0 : 0 = a) (h1 : b < c) (h2 : b < a) : False := by subst_vars; lia
theorem o410 {a b c d : Nat} (h0 : a = b) (h1 : c = d) (h2 : a = c) : b = d := by subst_vars; rfl
theorem o411 {a b c d e : Nat} (h0 : a = b) (h1 : c = d) (h2 : a = c) (h3 : e < b) : e < a := by lia
theorem o412 {a b c d e : Nat} (h0 : a = b) (h1 : c = d) (h2 : a = c) (h3 : e < b) : e < c := by simp_all
theorem o413 {a b c d : Nat} (h0 : a = b) (h1 : c = d) (h2 : ¬a = c) : ¬b = d := by subst_vars; assumption
theorem o414 {a b c d : Nat} (h0 : a = min b c) (h1 : d < a) : d + 1≤min b c := by exact h0 ▸ h1
theorem o415 {a b c d e : Nat} (h0 : a≤min b c) (h1 : min b c≤a) (h2 : b = d) (h3 : c = e) : d≤a∨e≤a := by lia
theorem o416 {a b c : Nat} (h0 : a = min b c) : 0≤min b c := by exact Nat.zero_le _
theorem o417 {a b : Nat} (h0 : ¬a < b) (h1 : a < b + 1) : a = b := by lia
theorem o418 {a b : Nat} (h0 : a≤16777216) (h1 : a = b) : b≤16777216 := by lia
theorem o419 {a b c : Nat} (h0 : ¬a < b) (h1 : b = c) : c≤a := by subst_vars; exact Nat.le_of_not_lt h0
theorem o420 {a b c : Nat} (h0 : a + (b + 1) < c) : a < c := by exact Nat.lt_of_le_of_lt (Nat.le_add_right _ _) h0
theorem o421 {a b c : Nat} (h0 : a + (b + 1) < c) : a + 1 + b < c := by exact Nat.lt_of_le_of_lt (Nat.le_of_eq (Nat.add_right_comm _ _ _)) h0
theorem o422 {a b c : Nat} (h0 : a + 8 * (b + 1) < c) : a + 3 + 8 * b < c := by lia
theorem o423 {a b c d : Nat} (h0 : a + b≤c) (h1 : d = a) : c = d + (b + (c - a - b)) := by grind
theorem o424 {a b : Nat} {c : Int} (h0 : a = b) (h1 : c.toNat < a) : c.toNat < b := by exact h0 ▸ h1
theorem o425 {a b : Nat} (h0 : a = b) (h1 : a≤16777216) (h2 : a - 1 < a) : (-1 + (↑b : Int)).toNat = a - 1 := by lia
theorem o426 {a b : Nat} (h0 : a = b) (h1 : a - 1 < a) (h2 : (-1 + (↑b : Int)).toNat = a - 1) : a - 1 < b := by lia
theorem o427 {a b : Nat} (h0 : a = b) (h1 : a≤16777216) (h2 : a - 1 < a) (h3 : (-1 + (↑b : Int)).toNat = a - 1) : -(↑b : Int)≤-1 := by lia
theorem o428 {a : Nat} (h0 : a≤16777216) : a≤1099511627776 := by lia
theorem o429 {a : Int} {b c : Nat} (h0 : 0≤a∧b≤c) (h1 : b≤16777216) (h2 : a.toNat < b) : a < (↑b : Int) := by lia
theorem o430 {a : Int} {b c : Nat} (h0 : 0≤a∧b≤c) (h1 : b≤16777216) (h2 : a.toNat < b) : -9223372036854775808≤a∧a < 9223372036854775808 := by lia
theorem o431 {a b : Nat} {c : Int} {d : Nat} (h0 : a = b) (h1 : 0≤c∧c < (↑a : Int)∧a≤d) : c < (↑b : Int) := by lia
theorem o432 {a b : Nat} (h0 : a≤16777216) (h1 : a = b) (h2 : a - 1 < a) : b - 1 < b := by lia
theorem o433 {a b : Nat} (h0 : a < 16777216) (h1 : a + 1 = b) : 0 < b := by lia
theorem o434 {a b : Nat} (h0 : a < 16777216) (h1 : a + 1 = b) : b≤16777216 := by omega
theorem o435 {a b : Nat} {c : Prop} (h0 : a≤b∧c) (h1 : b≤a) : a = b := by lia
theorem o436 {a b c : Nat} (h0 : a = b) (h1 : a≤c) : b≤c := by omega
theorem o439 {a b c : Nat} (h0 : a = b) (h1 : b < c) : a≤c := by lia
theorem o440 {a b c : Nat} (h0 : a≤b) (h1 : c = a) : b = c + (b - a) := by rw [h1,Nat.add_sub_cancel' h0]
theorem o441 {a b c : Nat} (h0 : a≤16777216) (h1 : a = b) (h2 : b = c) : b≤16777216 := by lia
theorem o442 {a b c : Int} (h0 : a≤b) (h1 : c≤b) : max a c≤b := by exact Int.max_le.mpr ⟨h0,h1⟩
theorem o443 {a b c : Int} (h0 : a≤b) (h1 : c = b) : max c a = b := by lia
theorem o444 {a b c : Int} (h0 : a≤b) (h1 : b = c) : max a c = b := by lia
theorem o445 {a b : Nat} (h0 : a + 1 = b) : 0 < b := by lia
theorem o446 {a b : Nat} (h0 : 0 < a) (h1 : b≤a - 1) : b < a := by omega
theorem o447 {a b c : Nat} (h0 : a < b) (h1 : b = c) : a < c := by lia
theorem o448 {a b : Nat} (h0 : 0 < a) (h1 : b < a) : b≤a - 1 := by lia
theorem o449 {a : Nat} : a≤a + 1 := by lia
theorem o450 {a b : Nat} (h0 : a = b) (h1 : a≤16777216) : b≤16777216 := by lia
theorem o451 {a b c d : Nat} (h0 : a + b≤16777216) (h1 : a = c) (h2 : b = d) : c + d≤16777216 := by lia
theorem o452 {a b c : Nat} (h0 : a≤1000000) (h1 : b = a) : ¬16777216 < a + c * 0 := by lia
theorem o453 {a : Nat} (h0 : a = 256) : a≤16777216 := by lia
theorem o454 {a b : Nat} (h0 : a - b = 0) : a≤b := by lia
theorem o457 {a b c : Nat} (h0 : a - b = c + 1) : b < a := by exact Nat.lt_of_sub_ne_zero (h0 ▸ Nat.succ_ne_zero c)
theorem o460 {a b c : Nat} (h0 : a - b = c + 1) (h1 : b < a) : a - (b + 1) = c := by rw [Nat.sub_add_eq,h0]; rfl
theorem o461 {a b : Nat} (h0 : a≤b + 1) : a≤b + 1 := by omega
theorem o462 {a b c : Nat} (h0 : a < 100) (h1 : b = c) (h2 : b≤a + 1) : c≤1000 := by lia
theorem o463 {a b c : Nat} (h0 : a + (b + 1) < c) : a + b < c := by lia
theorem o464 {a b c : Nat} (h0 : a + 8 * (b + 1) < c) : a + 1 + 8 * b < c := by lia
theorem o465 {a : Prop} {b : Nat} (h0 : a) : b≤b + 1 := by lia
theorem o466 : 1≤16777216 + 1 := by lia
theorem o467 {a b : Nat} (h0 : a = b) : a = b := by omega
theorem o468 {a b c : Nat} (h0 : a = b) (h1 : ¬c < a) (h2 : c < a + 1) : c = a := by lia
theorem o469 {a : Nat} (h0 : a + 1 = a) : False := by lia
theorem o470 {a b : Nat} (h0 : a≤63) (h1 : b = a) : b≤16777216 := by lia
theorem o471 {a : Int} {b : Nat} : a < a∨a = a∧b≤b := by lia
theorem o472 {a b : Int} {c d : Nat} : (a < b∨a = b∧c≤d)∨b < a∨b = a∧d≤c := by lia
theorem o473 {a b : Int} {c d : Nat} (h0 : a < b∨a = b∧c≤d) (h1 : b < a∨b = a∧d≤c) : c = d := by lia
theorem o474 {a b : Int} {c d : Nat} {e : Int} {f : Nat} (h0 : a < b∨a = b∧c≤d) (h1 : b < e∨b = e∧d≤f) : a < e∨a = e∧c≤f := by lia
theorem o475 {a b : Int} (h0 : 0≤a) (h1 : 0≤b) : 0≤a + b := by exact Int.add_le_add h0 h1
theorem o476 {a b : Int} : a - 1 + b = a + b - 1 := by lia
theorem o477 {a b : Int} (h0 : 0≤a) : b≤b + a := by lia
theorem o478 {a : Int} : a - 1≤a := by lia
theorem o479 {a : Int} (h0 : 1≤a) : 0≤a := by exact Int.le_of_lt h0
theorem o480 {a : Int} : a≤a := by exact Int.le_refl _
theorem o481 {a b : Int} (h0 : 0 < a + b) (h1 : ¬0 < a) : 0 < b := by omega
theorem o482 {a b c : Int} (h0 : a≤b) : c + a≤c + b := by simp_all
theorem o483 {a b c : Int} (h0 : 0≤a) (h1 : b≤c) : b≤a + c := by lia
theorem o484 {a b c : Int} : a + (b - c) = a + b - c := by lia
theorem o485 {a : Int} (h0 : 0 < a) : 0≤a - 1 := by exact Int.sub_nonneg_of_le h0
theorem o486 {a b c : Int} (h0 : a≤b) : a + c≤c + b := by lia
theorem o488 {a b c d : Int} (h0 : 0≤a) (h1 : b + c≤d) : b + c≤a + d := by lia
theorem o489 {a : Nat} {b : Int} (h0 : (↑(a + 1) : Int)≤b) : (↑a : Int)≤b := by exact Int.le_of_lt h0
theorem o491 {a : Nat} {b : Int} (h0 : (↑(a + 1) : Int)≤b) (h1 : b≤(↑a : Int)) : False := by lia
theorem o492 {a b c : Int} (h0 : a≤b) (h1 : c≤a) : c≤b := by exact Int.le_trans h1 h0
theorem o493 {a : Nat} {b : Int} (h0 : ¬(↑a : Int)≤b) : b < (↑a : Int) := by exact Int.lt_of_not_ge h0
theorem o494 {a b : Int} (h0 : a≤b) (h1 : 1≤a) : (↑b.toNat : Int) = b := by lia
theorem o495 {a : Int} {b : Nat} {c : Int} (h0 : 0 < a) (h1 : a = 0) : (↑b : Int)≤c := by omega
theorem o496 {a : Int} {b : Nat} (h0 : a≤(↑b : Int)) : a≤(↑(b + 1) : Int) := by lia
theorem o497 {a b c d : Int} (h0 : max a b + c≤d) : b + c≤d := by exact Int.le_trans (Int.add_le_add_right (Int.le_max_right a b) c) h0
theorem o498 {a : Int} {b : Nat} (h0 : a≤(↑b : Int)) : ¬a = (↑b : Int) + 1 := by omega
theorem o499 {a : Nat} : (↑(a + 1) : Int) = (↑a : Int) + 1 := by exact Int.natCast_add _ _
theorem o500 {a b c : Int} : a + (b + c) = a + b + (0 + c) := by lia
theorem o501 {a : Int} {b : Nat} (h0 : a = (↑b : Int) + 1) : a≤(↑(b + 1) : Int) := by simp_all
theorem o502 {a b c : Int} (h0 : 1≤a) (h1 : b + a≤c) : b≤c - 1 := by lia
theorem o503 {a : Int} {b : Nat} (h0 : a = (↑b : Int) + 1) : (↑(b + 1) : Int)≤a := by lia
theorem o504 {a : Int} {b : Nat} (h0 : a≤(↑b : Int)) (h1 : 1≤a) : (↑b : Int) = a + (↑(b - a.toNat) : Int) := by lia
theorem o505 {a b : Int} {c : Nat} (h0 : a≤b) (h1 : 1≤a) (h2 : (↑c : Int) = b) : (↑c : Int) = a + (↑(c - a.toNat) : Int) := by grind
theorem o506 {a b c : Int} : a + (b + c) = 0 + b + (a + c) := by lia
theorem o507 {a : Nat} {b : Int} (h0 : (↑a : Int) = b) : (↑a : Int)≤b := by lia
theorem o508 {a b : Int} (h0 : a≤b - 1) : a + 1≤b := by lia
theorem o509 {a : Nat} {b : Int} {c : Nat} (h0 : (↑(a + 1) : Int) = b + (↑(c + 1) : Int)) : (↑a : Int) = b + (↑c : Int) := by lia
theorem o510 {a : Int} {b : Nat} (h0 : ¬a≤(↑b : Int)) (h1 : ¬a = (↑b : Int) + 1) : ¬a≤(↑(b + 1) : Int) := by lia
theorem o511 {a : Nat} {b : Int} (h0 : (↑a : Int) = b - 1) : b - 1 = (↑a : Int) := by exact Eq.symm h0
theorem o512 {a b : Int} : 0 + (a + b) = 0 + a + (0 + b) := by simp
theorem o513 {a : Nat} {b : Int} {c : Nat} {d : Int} (h0 : (↑(a + 1) : Int) = b + (↑(c + 1) : Int)) (h1 : (↑(a + 1) : Int)≤d) : (↑a : Int)≤d := by exact Int.le_of_lt h1
theorem o514 {a : Int} {b : Nat} {c : Int} : max 0 (max 0 (a - (↑b : Int)) - 1) + c = max 0 (a - ((↑b : Int) + 1)) + c := by exact congrArg (· + c) (by rw [Int.max_def,Int.max_def,Int.max_def]; split <;> split <;> split <;> lia)
theorem o515 {a b : Int} {c : Nat} {d : Int} (h0 : a = max 0 (b - (↑c : Int))) (h1 : b = d) (h2 : d - 1 = (↑c : Int)) : a≤1 := by omega
theorem o516 {a : Nat} {b : Int} {c : Nat} (h0 : (↑(a + 1) : Int) = b + (↑(c + 1) : Int)) : b≤(↑a : Int) := by omega
theorem o517 {a b : Int} {c : Nat} {d : Int} (h0 : a≤b) (h1 : (↑c : Int) = b) (h2 : d - 1 = (↑c : Int)) : a≤(↑c : Int) := by subst_vars; assumption
theorem o518 {a : Nat} {b : Int} {c : Nat} {d : Int} (h0 : (↑(a + 1) : Int) = b + (↑(c + 1) : Int)) (h1 : (↑(a + 1) : Int)≤d - 1) : (↑a : Int) + 1 < d := by lia
theorem o519 {a b : Int} (h0 : 0 < a) (h1 : a≤b) : 0 < b := by exact Int.lt_of_lt_of_le h0 h1
theorem o520 {a : Int} (h0 : 0≤a) (h1 : ¬0 < a) : a = max 0 (a - 1) := by rw [show a = 0 from Int.le_antisymm (Int.not_lt.mp h1) h0]; rfl
theorem o521 {a : Int} (h0 : 0≤a) (h1 : ¬0 < a) : a = 0 := by lia
theorem o522 {a b : Int} (h0 : a≤0) : b + a≤b := by lia
theorem o523 {a b c : Int} {d e : Nat} (h0 : 0 < a) (h1 : b≤1) (h2 : a≤b) (h3 : a + c≤b) (h4 : 0 < c) : d = e := by lia
theorem o524 {a b : Int} (h0 : 0≤a) (h1 : 0 < b) (h2 : b≤a) : a - 1 = max 0 (a - 1) := by exact (Int.max_eq_right (Int.sub_nonneg_of_le (Int.le_trans h1 h2))).symm
theorem o525 {a b : Int} (h0 : a≤b) : 0 + a≤b := by simp_all
theorem o526 {a b : Int} (h0 : 0 < a) (h1 : b≤1) (h2 : a≤b) : a - 1 = 0 := by lia
theorem o527 {a : Int} {b c : Nat} (h0 : a < (↑b : Int)) (h1 : (↑c : Int) = a) : c + 1≤b := by lia
theorem o528 {a : Int} (h0 : 0≤a) (h1 : ¬0 < a) : a - 0 = max 0 (a - 1) := by rw [show a = 0 from Int.le_antisymm (Int.not_lt.mp h1) h0]; rfl
theorem o529 {a : Nat} {b : Int} {c : Nat} {d e f : Int} (h0 : (↑(a + 1) : Int) = b + (↑(c + 1) : Int)) (h1 : 0 < d) (h2 : (↑a : Int) + 2≤e) (h3 : f = max 0 (e - (↑a : Int))) (h4 : f≤d) : 0 < d - 1 := by lia
theorem o530 {a b : Int} (h0 : a = 0) (h1 : b≤a) (h2 : 0≤b) : b = 0 := by lia
theorem o531 {a b c d : Int} (h0 : a≤b) (h1 : c≤d) : c + a≤d + b := by exact Int.add_le_add h1 h0
theorem o532 {a b c : Int} (h0 : a≤b) (h1 : 0≤c) : a≤c + b := by lia
theorem o533 {a b : Nat} {c : Prop} (h0 : a + 1≤b) (h1 : c) : a≤b := by exact Nat.le_of_lt h0
theorem o534 {a b : Nat} : (↑a : Int) = (↑b : Int)↔a = b := by omega
theorem o535 {a b : Int} {c d : Nat} (h0 : a < b∨a = b∧c≤d) : a≤b := by lia
theorem o536 {a : Int} {b : Nat} (h0 : a≤(↑b : Int)) : a < (↑(b + 1) : Int) := by exact Int.lt_add_one_of_le h0
theorem o537 {a : Prop} {b : Nat} (h0 : a) : b < b + 1 := by exact Nat.lt_succ_self _
theorem o538 {a : Nat} {b c : Int} (h0 : (↑a : Int) = b) (h1 : c≤b) : c≤(↑a : Int) := by subst_vars; assumption
theorem o539 {a : Prop} {b c : Nat} (h0 : a) (h1 : b < c + 1) (h2 : ¬b = c) : b < c := by exact Nat.lt_of_le_of_ne (Nat.le_of_lt_succ h1) h2
theorem o540 {a : Nat} {b : Int} (h0 : (↑a : Int) = b) (h1 : 1≤b) : 0 < a := by subst_vars; lia
theorem o541 {a b : Prop} {c d e : Int} (h0 : a) (h1 : b∧c < d) (h2 : e≤c) : e≤d := by lia
theorem o543 {a : Int} : a - 0 = a := by simp
theorem o544 {a : Prop} {b c : Nat} (h0 : a) (h1 : b < c) : b < c + 1 := by exact Nat.lt_succ_of_lt h1
theorem o545 {a : Prop} {b c : Int} (h0 : a) (h1 : ¬b < c) : c≤b := by exact Int.le_of_not_gt h1
theorem o547 {a : Nat} {b : Int} (h0 : (↑a : Int) = b) : b < (↑(a + 1) : Int) := by subst_vars; lia
theorem o548 {a : Int} (h0 : 0 < a) (h1 : a = 0) : False := by omega
theorem o549 {a : Nat} {b : Int} {c : Nat} (h0 : (↑a : Int) = b) : b < (↑(a + c + 1) : Int) := by subst_vars; lia
theorem o550 {a : Int} {b c : Nat} (h0 : a≤(↑b : Int)) (h1 : (↑c : Int) = a) : c + (b - c) = b := by subst_vars; lia
theorem o551 {a : Nat} : a < a + 1 := by exact Nat.lt_succ_self _
theorem o553 {a b c d e : Int} (h0 : a≤0 + b) (h1 : b≤c) (h2 : 1≤d) : a - 1 - e≤c - (e - d + 1) := by lia
theorem o555 {a : Int} {b c : Nat} (h0 : a≤(↑b : Int)) (h1 : (↑c : Int) = a) : (↑b : Int) - (↑(b - c) : Int) = a := by omega
theorem o558 {a : Int} (h0 : 1≤a) : (↑a.toNat : Int) = a := by lia
theorem o559 {a : Int} {b : Nat} {c d : Int} (h0 : a - (↑b : Int)≤c) (h1 : c - 1≤d) : a - (↑(b + 1) : Int)≤d := by lia
theorem o560 {a b : Nat} (h0 : a≤b) : a + (b + 1 - a) = b + 1 := by exact Nat.add_sub_cancel' (Nat.le_succ_of_le h0)
theorem o561 {a : Nat} {b c : Int} (h0 : (↑a : Int) = b) (h1 : c≤b) : c < (↑(a + 1) : Int) := by lia
theorem o562 {a b : Int} {c d : Nat} (h0 : a = b) (h1 : (↑c : Int) = (↑d : Int)) : b < a∨b = a∧d≤c := by omega
theorem o563 {a b : Nat} (h0 : (↑a : Int) = (↑b : Int)) : a = b := by lia
theorem o564 {a b : Int} {c d : Nat} (h0 : a = b) (h1 : ¬(↑c : Int) < (↑d : Int)) : b < a∨b = a∧d≤c := by simp_all
theorem o565 {a b : Int} {c d : Nat} (h0 : ¬a = b) (h1 : ¬a < b) : b < a∨b = a∧c≤d := by lia
theorem o566 {a b : Int} (h0 : a = b - 1) (h1 : 1 < b) : 0 < b - 1 := by simp_all
theorem o567 {a b : Int} (h0 : 0 < a) (h1 : b = a - 1) (h2 : ¬1 < a) : ¬0 < a - 1 := by simp_all
end Mine
end
section
set_option tactic.hygienic false
section
namespace Mine
open PySem PyProof.Rows
inductive V where
  | none | bool (b : Bool) | int (i : Int) | str (l : List Nat) | bytes (l : List UInt8)
  | typ (n : String) | rng (a b : Int) | tup (vs : List V) | ref (i : Nat) | ext (a : Addr)
structure FDat where
  name : Str
  qualname : Str
  params : Arguments
  body : FuncBody
  scope : Scope
inductive LObj where
  | lst (xs : List V)
  | cell (v : V)
  | dic (kvs : List (Str × V))
  | ins (cls : Addr) (d : Nat)
  | rdf (D : FDat) (x : Str) (c : Nat)
  | stf (d : Nat)
  | cit (f : Addr) (on : Bool) (x : Nat)
  | ecell
  | tab (ls : List Nat)
  | lam
structure St where
  loc : List (Option V)
  g : List LObj
noncomputable abbrev LM (α : Type) := StateT St Option α
inductive Fl where
  | next | brk | cont | ret (v : V)
noncomputable abbrev tupO (vals : Array Value) (n : Nat) : Obj := { cls := .type "tuple",data := .seq vals n }
noncomputable abbrev lstO (vals : Array Value) (n : Nat) : Obj := { cls := .type "list",data := .seq vals n }
inductive VR (h : Heap) (μ : List Addr) : V→Value→Prop
  | none : VR h μ .none .none
  | bool (b : Bool) : VR h μ (.bool b) (.bool b)
  | int (i : Int) (t : Tok) : VR h μ (.int i) (.int i t)
  | str (l : List Nat) (t : Tok) : VR h μ (.str l) (.str ⟨l.toArray⟩ t)
  | bytes (l : List UInt8) (t : Tok) : VR h μ (.bytes l) (.bytes l.toArray t)
  | typ (n : String) : VR h μ (.typ n) (.type n)
  | rng {a b : Int} {r : Addr} {t u v : Tok} : IsRange h r a b 1 t u v→VR h μ (.rng a b) (.ref r)
  | tup {vs : List V} {vals : Array Value} {n : Nat} {r : Addr} : h.get? r = some (tupO vals n)→vs.length = vals.size →
      (∀ (i : Nat) v x,vs[i]? = some v→vals[i]? = some x→VR h μ v x)→VR h μ (.tup vs) (.ref r)
  | ref {i : Nat} {a : Addr} : μ[i]? = some a→VR h μ (.ref i) (.ref a)
  | ext (a : Addr) : VR h μ (.ext a) (.ref a)
noncomputable def VRs (h : Heap) (μ : List Addr) (vs : List V) (xs : List Value) : Prop := vs.length = xs.length∧∀ (i : Nat) v x,vs[i]? = some v→xs[i]? = some x→VR h μ v x
theorem VRs.nil {h : Heap} {μ : List Addr} : VRs h μ [] [] := ⟨rfl,fun i v x e => by simp at e⟩
theorem VRs.cons {h : Heap} {μ : List Addr} {v : V} {x : Value} {vs : List V} {xs : List Value} (h1 : VR h μ v x) (h2 : VRs h μ vs xs) : VRs h μ (v :: vs) (x :: xs) := by
  refine ⟨by simp [h2.1],fun i w y e e' => ?_⟩
  cases i with
  | zero => simp at e e'; subst e e'; exact h1
  | succ i => simp at e e'; exact h2.2 i w y e e'
theorem VRs.uncons {h : Heap} {μ : List Addr} {v : V} {x : Value} {vs : List V} {xs : List Value} (H : VRs h μ (v :: vs) (x :: xs)) : VR h μ v x∧VRs h μ vs xs :=
  ⟨H.2 0 v x rfl rfl,by have := H.1; simpa using this,fun i w y e e' => H.2 (i + 1) w y (by simpa using e) (by simpa using e')⟩
noncomputable def immT : Value→Bool
  | .type n => n == "range" || n == "method" || n == "code"
  | _ => false
noncomputable def Imm (o : Obj) : Prop := (o.cls = .type "tuple"∧∃ xs n,o.data = .seq xs n)∨(immT o.cls = true∧∃ vs,o.data = .fields vs)
noncomputable def KV (h : Heap) (μ : List Addr) (kvs : List (Str × V)) (es : List DictEntry) : Prop :=
  kvs.length = es.length∧∀ (i : Nat) kv e,kvs[i]? = some kv→es[i]? = some e→(∃ t,e.key = .str kv.1 t)∧VR h μ kv.2 e.val
noncomputable def CodeImm (h : Heap) (cd : Value) (q : Str) : Prop := ∃ c o vs t,cd = .ref c∧h.get? c = some o∧Imm o∧o.data = .fields vs∧vs[1]? = some (.str q t)
structure FdIs (fd : FuncData) (D : FDat) : Prop where
  name : fd.name = D.name
  qualname : fd.qualname = D.qualname
  params : fd.params = D.params
  body : fd.body = D.body
  scope : fd.scope = D.scope
  globals : fd.globals = mainGlobals
  builtins : fd.builtins = builtinsNs
  defaults : fd.defaults = .none
  kwdefaults : fd.kwdefaults = .none
noncomputable def TabOk (ls : List Nat) (ps : Array Value) : Prop := TriplesOk ps.toList∧∀ pos : Pos,pos.line ∉ ls→codeAmong pos ps.toList = none
inductive OR (h : Heap) (μ : List Addr) : LObj→Obj→Prop
  | lst {xs : List V} {vals : Array Value} {n : Nat} : VRs h μ xs vals.toList→OR h μ (.lst xs) (lstO vals n)
  | cell {v : V} {val : Value} {ob : Obj} : ob.data = .cell (some val)→VR h μ v val→OR h μ (.cell v) ob
  | dic {kvs : List (Str × V)} {es : List DictEntry} {n : Nat} : KV h μ kvs es→OR h μ (.dic kvs) { cls := .type "dict",data := .dict es.toArray n }
  | ins {cls dx : Addr} {d : Nat} {sl : Array (Option Value)} : μ[d]? = some dx→OR h μ (.ins cls d) ⟨.ref cls,some dx,.plain,sl⟩
  | rdf {D : FDat} {x : Str} {c : Nat} {ca : Addr} {fd : FuncData} {sl : Array (Option Value)} : FdIs fd D→fd.closure = [(x,ca)]→μ[c]? = some ca→CodeImm h fd.code fd.qualname →
      OR h μ (.rdf D x c) ⟨.type "function",none,.func fd,sl⟩
  | stf {d : Nat} {da : Addr} {fd : FuncData} {sl : Array (Option Value)} : μ[d]? = some da→OR h μ (.stf d) ⟨.type "function",some da,.func fd,sl⟩
  | citOn {f : Addr} {x : Nat} {xa m : Addr} {t : Tok} : h.get? m = some { cls := .type "method",data := .fields #[.ref f,.ref xa] }→μ[x]? = some xa →
      OR h μ (.cit f true x) { cls := .type "callable_iterator",data := .fields #[.ref m,.str ⟨#[]⟩ t,.bool false] }
  | citOff {f : Addr} {x : Nat} : OR h μ (.cit f false x) { cls := .type "callable_iterator",data := .fields #[.none,.none,.bool true] }
  | ecell {ob : Obj} : ob.data = .cell none→OR h μ .ecell ob
  | tab {ls : List Nat} {ps : Array Value} : TabOk ls ps→OR h μ (.tab ls) { cls := .none,data := .fields ps }
  | lam {fd : FuncData} {sl : Array (Option Value)} : OR h μ .lam ⟨.type "function",none,.func fd,sl⟩
theorem gen0 {P : Prop} (h : ∀ G : Prop,(P→G)→G) : P := h P fun p => p
theorem gen1 {α : Sort _} {x : α} {P : α→Prop} (h : ∀ G : α→Prop,(∀ x,P x→G x)→G x) : P x := h P fun _ p => p
theorem gen2 {α : Sort _} {β : Sort _} {x : α} {y : β} {P : α→β→Prop} (h : ∀ G : α→β→Prop,(∀ x y,P x y→G x y)→G x y) : P x y := h P fun _ _ p => p
theorem gen3 {α : Sort _} {β : Sort _} {γ : Sort _} {x : α} {y : β} {z : γ} {P : α→β→γ→Prop} (h : ∀ G : α→β→γ→Prop,(∀ x y z,P x y z→G x y z)→G x y z) : P x y z := h P fun _ _ _ p => p
theorem gen4 {α : Sort _} {β : Sort _} {γ : Sort _} {δ : Sort _} {x : α} {y : β} {z : γ} {w : δ} {P : α→β→γ→δ→Prop} (h : ∀ G : α→β→γ→δ→Prop,(∀ x y z w,P x y z w→G x y z w)→G x y z w) : P x y z w := h P fun _ _ _ _ p => p
theorem off {α : Type} {x : Option α} {a : α} {P : Prop} (n : x = none) (e : x = some a) : P := nomatch n.symm.trans e
theorem geq {h : Heap} {a b : Addr} {o o' : Obj} (x : h.get? a = some o) (e : h.get? b = some o') (q : b = a) : o' = o := Option.some.inj (e.symm.trans (q ▸ x))
theorem gne {h : Heap} {a b : Addr} {o : Obj} (n : h.get? a = none) (e : h.get? b = some o) : b≠a := fun q => off n (q ▸ e)
theorem gdn {h : Heap} {a b : Addr} {o o' : Obj} {d d' : Data} (x : h.get? a = some o) (hd : o.data = d) (e : h.get? b = some o') (e' : o'.data = d') (n : d' = d→False) : b≠a := fun q => n (e'.symm.trans ((congrArg Obj.data (geq x e q)).trans hd))
theorem gback {h h' : Heap} {a : Addr} (k : ∀ o,h.get? a = some o→h'.get? a = some o) (n : h'.get? a = none) : h.get? a = none := by
  cases e : h.get? a with
  | none => rfl
  | some o => exact off n (k o e)
theorem wr1 {p : Addr→Prop} {a : Addr} (h : p a) : ∀ b ∈ [a],p b := fun b m => by cases m with | head => exact h | tail _ m => cases m
theorem ns {α : Type} {a : α} {P : Prop} (h : none = some a) : P := nomatch h
@[elab_as_elim] theorem si2 {α : Type} {β : Type} {a c : α} {b d : β} {G : α→β→Prop} (h : some (a,b) = some (c,d)) (k : G a b) : G c d := by cases h; exact k
@[elab_as_elim] theorem si {α : Type} {a b : α} {G : α→Prop} (h : some a = some b) (k : G a) : G b := Option.some.inj h ▸ k
theorem ex1a1 {A : Type} {p : A→Prop} {G : Prop} (h : ∃ x,p x) (k : ∀ x,p x→G) : G := h.elim k
theorem ex2a1 {A B : Type} {p : A→B→Prop} {G : Prop} (h : ∃ x y,p x y) (k : ∀ x y,p x y→G) : G := h.elim fun x h => ex1a1 h (k x)
theorem ex3a1 {A B C : Type} {p : A→B→C→Prop} {G : Prop} (h : ∃ x y z,p x y z) (k : ∀ x y z,p x y z→G) : G := h.elim fun x h => ex2a1 h (k x)
theorem ex4a1 {A B C D : Type} {p : A→B→C→D→Prop} {G : Prop} (h : ∃ x y z w,p x y z w) (k : ∀ x y z w,p x y z w→G) : G := h.elim fun x h => ex3a1 h (k x)
theorem ex5a1 {A B C D E : Type} {p : A→B→C→D→E→Prop} {G : Prop} (h : ∃ x y z w u,p x y z w u) (k : ∀ x y z w u,p x y z w u→G) : G := h.elim fun x h => ex4a1 h (k x)
theorem ex0a2 {p q : Prop} {G : Prop} (h : p∧q) (k : p→q→G) : G := k h.1 h.2
theorem ex1a2 {A : Type} {p q : A→Prop} {G : Prop} (h : ∃ x,p x∧q x) (k : ∀ x,p x→q x→G) : G := h.elim fun x h => ex0a2 h (k x)
theorem ex2a2 {A B : Type} {p q : A→B→Prop} {G : Prop} (h : ∃ x y,p x y∧q x y) (k : ∀ x y,p x y→q x y→G) : G := h.elim fun x h => ex1a2 h (k x)
theorem ex3a2 {A B C : Type} {p q : A→B→C→Prop} {G : Prop} (h : ∃ x y z,p x y z∧q x y z) (k : ∀ x y z,p x y z→q x y z→G) : G := h.elim fun x h => ex2a2 h (k x)
theorem ex4a2 {A B C D : Type} {p q : A→B→C→D→Prop} {G : Prop} (h : ∃ x y z w,p x y z w∧q x y z w) (k : ∀ x y z w,p x y z w→q x y z w→G) : G := h.elim fun x h => ex3a2 h (k x)
theorem ex0a3 {p q r : Prop} {G : Prop} (h : p∧q∧r) (k : p→q→r→G) : G := k h.1 h.2.1 h.2.2
theorem ex1a3 {A : Type} {p q r : A→Prop} {G : Prop} (h : ∃ x,p x∧q x∧r x) (k : ∀ x,p x→q x→r x→G) : G := h.elim fun x h => ex0a3 h (k x)
theorem ex2a3 {A B : Type} {p q r : A→B→Prop} {G : Prop} (h : ∃ x y,p x y∧q x y∧r x y) (k : ∀ x y,p x y→q x y→r x y→G) : G := h.elim fun x h => ex1a3 h (k x)
theorem ex3a3 {A B C : Type} {p q r : A→B→C→Prop} {G : Prop} (h : ∃ x y z,p x y z∧q x y z∧r x y z) (k : ∀ x y z,p x y z→q x y z→r x y z→G) : G := h.elim fun x h => ex2a3 h (k x)
theorem ex4a3 {A B C D : Type} {p q r : A→B→C→D→Prop} {G : Prop} (h : ∃ x y z w,p x y z w∧q x y z w∧r x y z w) (k : ∀ x y z w,p x y z w→q x y z w→r x y z w→G) : G := h.elim fun x h => ex3a3 h (k x)
theorem ex0a4 {p q r a : Prop} {G : Prop} (h : p∧q∧r∧a) (k : p→q→r→a→G) : G := k h.1 h.2.1 h.2.2.1 h.2.2.2
theorem ex1a4 {A : Type} {p q r a : A→Prop} {G : Prop} (h : ∃ x,p x∧q x∧r x∧a x) (k : ∀ x,p x→q x→r x→a x→G) : G := h.elim fun x h => ex0a4 h (k x)
theorem ex2a4 {A B : Type} {p q r a : A→B→Prop} {G : Prop} (h : ∃ x y,p x y∧q x y∧r x y∧a x y) (k : ∀ x y,p x y→q x y→r x y→a x y→G) : G := h.elim fun x h => ex1a4 h (k x)
theorem ex3a4 {A B C : Type} {p q r a : A→B→C→Prop} {G : Prop} (h : ∃ x y z,p x y z∧q x y z∧r x y z∧a x y z) (k : ∀ x y z,p x y z→q x y z→r x y z→a x y z→G) : G := h.elim fun x h => ex2a4 h (k x)
theorem ex4a4 {A B C D : Type} {p q r a : A→B→C→D→Prop} {G : Prop} (h : ∃ x y z w,p x y z w∧q x y z w∧r x y z w∧a x y z w) (k : ∀ x y z w,p x y z w→q x y z w→r x y z w→a x y z w→G) : G := h.elim fun x h => ex3a4 h (k x)
theorem ex5a4 {A B C D E : Type} {p q r a : A→B→C→D→E→Prop} {G : Prop} (h : ∃ x y z w u,p x y z w u∧q x y z w u∧r x y z w u∧a x y z w u) (k : ∀ x y z w u,p x y z w u→q x y z w u→r x y z w u→a x y z w u→G) : G := h.elim fun x h => ex4a4 h (k x)
theorem ex6a4 {A B C D E F : Type} {p q r a : A→B→C→D→E→F→Prop} {G : Prop} (h : ∃ x y z w u v,p x y z w u v∧q x y z w u v∧r x y z w u v∧a x y z w u v) (k : ∀ x y z w u v,p x y z w u v→q x y z w u v→r x y z w u v→a x y z w u v→G) : G := h.elim fun x h => ex5a4 h (k x)
theorem ex0a5 {p q r a b : Prop} {G : Prop} (h : p∧q∧r∧a∧b) (k : p→q→r→a→b→G) : G := k h.1 h.2.1 h.2.2.1 h.2.2.2.1 h.2.2.2.2
theorem ex1a5 {A : Type} {p q r a b : A→Prop} {G : Prop} (h : ∃ x,p x∧q x∧r x∧a x∧b x) (k : ∀ x,p x→q x→r x→a x→b x→G) : G := h.elim fun x h => ex0a5 h (k x)
theorem ex2a5 {A B : Type} {p q r a b : A→B→Prop} {G : Prop} (h : ∃ x y,p x y∧q x y∧r x y∧a x y∧b x y) (k : ∀ x y,p x y→q x y→r x y→a x y→b x y→G) : G := h.elim fun x h => ex1a5 h (k x)
theorem ex3a5 {A B C : Type} {p q r a b : A→B→C→Prop} {G : Prop} (h : ∃ x y z,p x y z∧q x y z∧r x y z∧a x y z∧b x y z) (k : ∀ x y z,p x y z→q x y z→r x y z→a x y z→b x y z→G) : G := h.elim fun x h => ex2a5 h (k x)
theorem ex4a5 {A B C D : Type} {p q r a b : A→B→C→D→Prop} {G : Prop} (h : ∃ x y z w,p x y z w∧q x y z w∧r x y z w∧a x y z w∧b x y z w) (k : ∀ x y z w,p x y z w→q x y z w→r x y z w→a x y z w→b x y z w→G) : G := h.elim fun x h => ex3a5 h (k x)
theorem ex5a5 {A B C D E : Type} {p q r a b : A→B→C→D→E→Prop} {G : Prop} (h : ∃ x y z w u,p x y z w u∧q x y z w u∧r x y z w u∧a x y z w u∧b x y z w u) (k : ∀ x y z w u,p x y z w u→q x y z w u→r x y z w u→a x y z w u→b x y z w u→G) : G := h.elim fun x h => ex4a5 h (k x)
theorem ex6a5 {A B C D E F : Type} {p q r a b : A→B→C→D→E→F→Prop} {G : Prop} (h : ∃ x y z w u v,p x y z w u v∧q x y z w u v∧r x y z w u v∧a x y z w u v∧b x y z w u v) (k : ∀ x y z w u v,p x y z w u v→q x y z w u v→r x y z w u v→a x y z w u v→b x y z w u v→G) : G := h.elim fun x h => ex5a5 h (k x)
theorem ex7a5 {A B C D E F H : Type} {p q r a b : A→B→C→D→E→F→H→Prop} {G : Prop} (h : ∃ x y z w u v s,p x y z w u v s∧q x y z w u v s∧r x y z w u v s∧a x y z w u v s∧b x y z w u v s) (k : ∀ x y z w u v s,p x y z w u v s→q x y z w u v s→r x y z w u v s→a x y z w u v s→b x y z w u v s→G) : G := h.elim fun x h => ex6a5 h (k x)
theorem ex0a6 {p q r a b c : Prop} {G : Prop} (h : p∧q∧r∧a∧b∧c) (k : p→q→r→a→b→c→G) : G := k h.1 h.2.1 h.2.2.1 h.2.2.2.1 h.2.2.2.2.1 h.2.2.2.2.2
theorem ex1a6 {A : Type} {p q r a b c : A→Prop} {G : Prop} (h : ∃ x,p x∧q x∧r x∧a x∧b x∧c x) (k : ∀ x,p x→q x→r x→a x→b x→c x→G) : G := h.elim fun x h => ex0a6 h (k x)
theorem ex2a6 {A B : Type} {p q r a b c : A→B→Prop} {G : Prop} (h : ∃ x y,p x y∧q x y∧r x y∧a x y∧b x y∧c x y) (k : ∀ x y,p x y→q x y→r x y→a x y→b x y→c x y→G) : G := h.elim fun x h => ex1a6 h (k x)
theorem ex3a6 {A B C : Type} {p q r a b c : A→B→C→Prop} {G : Prop} (h : ∃ x y z,p x y z∧q x y z∧r x y z∧a x y z∧b x y z∧c x y z) (k : ∀ x y z,p x y z→q x y z→r x y z→a x y z→b x y z→c x y z→G) : G := h.elim fun x h => ex2a6 h (k x)
theorem ex4a6 {A B C D : Type} {p q r a b c : A→B→C→D→Prop} {G : Prop} (h : ∃ x y z w,p x y z w∧q x y z w∧r x y z w∧a x y z w∧b x y z w∧c x y z w) (k : ∀ x y z w,p x y z w→q x y z w→r x y z w→a x y z w→b x y z w→c x y z w→G) : G := h.elim fun x h => ex3a6 h (k x)
theorem ex5a6 {A B C D E : Type} {p q r a b c : A→B→C→D→E→Prop} {G : Prop} (h : ∃ x y z w u,p x y z w u∧q x y z w u∧r x y z w u∧a x y z w u∧b x y z w u∧c x y z w u) (k : ∀ x y z w u,p x y z w u→q x y z w u→r x y z w u→a x y z w u→b x y z w u→c x y z w u→G) : G := h.elim fun x h => ex4a6 h (k x)
theorem ex6a6 {A B C D E F : Type} {p q r a b c : A→B→C→D→E→F→Prop} {G : Prop} (h : ∃ x y z w u v,p x y z w u v∧q x y z w u v∧r x y z w u v∧a x y z w u v∧b x y z w u v∧c x y z w u v) (k : ∀ x y z w u v,p x y z w u v→q x y z w u v→r x y z w u v→a x y z w u v→b x y z w u v→c x y z w u v→G) : G := h.elim fun x h => ex5a6 h (k x)
theorem ex7a6 {A B C D E F H : Type} {p q r a b c : A→B→C→D→E→F→H→Prop} {G : Prop} (h : ∃ x y z w u v s,p x y z w u v s∧q x y z w u v s∧r x y z w u v s∧a x y z w u v s∧b x y z w u v s∧c x y z w u v s) (k : ∀ x y z w u v s,p x y z w u v s→q x y z w u v s→r x y z w u v s→a x y z w u v s→b x y z w u v s→c x y z w u v s→G) : G := h.elim fun x h => ex6a6 h (k x)
theorem ex8a6 {A B C D E F H I : Type} {p q r a b c : A→B→C→D→E→F→H→I→Prop} {G : Prop} (h : ∃ x y z w u v s t,p x y z w u v s t∧q x y z w u v s t∧r x y z w u v s t∧a x y z w u v s t∧b x y z w u v s t∧c x y z w u v s t) (k : ∀ x y z w u v s t,p x y z w u v s t→q x y z w u v s t→r x y z w u v s t→a x y z w u v s t→b x y z w u v s t→c x y z w u v s t→G) : G := h.elim fun x h => ex7a6 h (k x)
theorem ex0a7 {p q r a b c d : Prop} {G : Prop} (h : p∧q∧r∧a∧b∧c∧d) (k : p→q→r→a→b→c→d→G) : G := k h.1 h.2.1 h.2.2.1 h.2.2.2.1 h.2.2.2.2.1 h.2.2.2.2.2.1 h.2.2.2.2.2.2
theorem ex1a7 {A : Type} {p q r a b c d : A→Prop} {G : Prop} (h : ∃ x,p x∧q x∧r x∧a x∧b x∧c x∧d x) (k : ∀ x,p x→q x→r x→a x→b x→c x→d x→G) : G := h.elim fun x h => ex0a7 h (k x)
theorem ex2a7 {A B : Type} {p q r a b c d : A→B→Prop} {G : Prop} (h : ∃ x y,p x y∧q x y∧r x y∧a x y∧b x y∧c x y∧d x y) (k : ∀ x y,p x y→q x y→r x y→a x y→b x y→c x y→d x y→G) : G := h.elim fun x h => ex1a7 h (k x)
theorem ex3a7 {A B C : Type} {p q r a b c d : A→B→C→Prop} {G : Prop} (h : ∃ x y z,p x y z∧q x y z∧r x y z∧a x y z∧b x y z∧c x y z∧d x y z) (k : ∀ x y z,p x y z→q x y z→r x y z→a x y z→b x y z→c x y z→d x y z→G) : G := h.elim fun x h => ex2a7 h (k x)
theorem ex4a7 {A B C D : Type} {p q r a b c d : A→B→C→D→Prop} {G : Prop} (h : ∃ x y z w,p x y z w∧q x y z w∧r x y z w∧a x y z w∧b x y z w∧c x y z w∧d x y z w) (k : ∀ x y z w,p x y z w→q x y z w→r x y z w→a x y z w→b x y z w→c x y z w→d x y z w→G) : G := h.elim fun x h => ex3a7 h (k x)
theorem ex5a7 {A B C D E : Type} {p q r a b c d : A→B→C→D→E→Prop} {G : Prop} (h : ∃ x y z w u,p x y z w u∧q x y z w u∧r x y z w u∧a x y z w u∧b x y z w u∧c x y z w u∧d x y z w u) (k : ∀ x y z w u,p x y z w u→q x y z w u→r x y z w u→a x y z w u→b x y z w u→c x y z w u→d x y z w u→G) : G := h.elim fun x h => ex4a7 h (k x)
theorem ex0a8 {p q r a b c d e : Prop} {G : Prop} (h : p∧q∧r∧a∧b∧c∧d∧e) (k : p→q→r→a→b→c→d→e→G) : G := k h.1 h.2.1 h.2.2.1 h.2.2.2.1 h.2.2.2.2.1 h.2.2.2.2.2.1 h.2.2.2.2.2.2.1 h.2.2.2.2.2.2.2
theorem ex1a8 {A : Type} {p q r a b c d e : A→Prop} {G : Prop} (h : ∃ x,p x∧q x∧r x∧a x∧b x∧c x∧d x∧e x) (k : ∀ x,p x→q x→r x→a x→b x→c x→d x→e x→G) : G := h.elim fun x h => ex0a8 h (k x)
theorem ex2a8 {A B : Type} {p q r a b c d e : A→B→Prop} {G : Prop} (h : ∃ x y,p x y∧q x y∧r x y∧a x y∧b x y∧c x y∧d x y∧e x y) (k : ∀ x y,p x y→q x y→r x y→a x y→b x y→c x y→d x y→e x y→G) : G := h.elim fun x h => ex1a8 h (k x)
theorem ex3a8 {A B C : Type} {p q r a b c d e : A→B→C→Prop} {G : Prop} (h : ∃ x y z,p x y z∧q x y z∧r x y z∧a x y z∧b x y z∧c x y z∧d x y z∧e x y z) (k : ∀ x y z,p x y z→q x y z→r x y z→a x y z→b x y z→c x y z→d x y z→e x y z→G) : G := h.elim fun x h => ex2a8 h (k x)
theorem ex4a8 {A B C D : Type} {p q r a b c d e : A→B→C→D→Prop} {G : Prop} (h : ∃ x y z w,p x y z w∧q x y z w∧r x y z w∧a x y z w∧b x y z w∧c x y z w∧d x y z w∧e x y z w) (k : ∀ x y z w,p x y z w→q x y z w→r x y z w→a x y z w→b x y z w→c x y z w→d x y z w→e x y z w→G) : G := h.elim fun x h => ex3a8 h (k x)
theorem ex5a8 {A B C D E : Type} {p q r a b c d e : A→B→C→D→E→Prop} {G : Prop} (h : ∃ x y z w u,p x y z w u∧q x y z w u∧r x y z w u∧a x y z w u∧b x y z w u∧c x y z w u∧d x y z w u∧e x y z w u) (k : ∀ x y z w u,p x y z w u→q x y z w u→r x y z w u→a x y z w u→b x y z w u→c x y z w u→d x y z w u→e x y z w u→G) : G := h.elim fun x h => ex4a8 h (k x)
theorem ex0a9 {p q r a b c d e f : Prop} {G : Prop} (h : p∧q∧r∧a∧b∧c∧d∧e∧f) (k : p→q→r→a→b→c→d→e→f→G) : G := k h.1 h.2.1 h.2.2.1 h.2.2.2.1 h.2.2.2.2.1 h.2.2.2.2.2.1 h.2.2.2.2.2.2.1 h.2.2.2.2.2.2.2.1 h.2.2.2.2.2.2.2.2
theorem ex0a11 {p q r a b c d e f g i : Prop} {G : Prop} (h : p∧q∧r∧a∧b∧c∧d∧e∧f∧g∧i) (k : p→q→r→a→b→c→d→e→f→g→i→G) : G := k h.1 h.2.1 h.2.2.1 h.2.2.2.1 h.2.2.2.2.1 h.2.2.2.2.2.1 h.2.2.2.2.2.2.1 h.2.2.2.2.2.2.2.1 h.2.2.2.2.2.2.2.2.1 h.2.2.2.2.2.2.2.2.2.1 h.2.2.2.2.2.2.2.2.2.2
theorem ex1a11 {A : Type} {p q r a b c d e f g i : A→Prop} {G : Prop} (h : ∃ x,p x∧q x∧r x∧a x∧b x∧c x∧d x∧e x∧f x∧g x∧i x) (k : ∀ x,p x→q x→r x→a x→b x→c x→d x→e x→f x→g x→i x→G) : G := h.elim fun x h => ex0a11 h (k x)
theorem ex2a11 {A B : Type} {p q r a b c d e f g i : A→B→Prop} {G : Prop} (h : ∃ x y,p x y∧q x y∧r x y∧a x y∧b x y∧c x y∧d x y∧e x y∧f x y∧g x y∧i x y) (k : ∀ x y,p x y→q x y→r x y→a x y→b x y→c x y→d x y→e x y→f x y→g x y→i x y→G) : G := h.elim fun x h => ex1a11 h (k x)
theorem ex3a11 {A B C : Type} {p q r a b c d e f g i : A→B→C→Prop} {G : Prop} (h : ∃ x y z,p x y z∧q x y z∧r x y z∧a x y z∧b x y z∧c x y z∧d x y z∧e x y z∧f x y z∧g x y z∧i x y z) (k : ∀ x y z,p x y z→q x y z→r x y z→a x y z→b x y z→c x y z→d x y z→e x y z→f x y z→g x y z→i x y z→G) : G := h.elim fun x h => ex2a11 h (k x)
theorem ex4a11 {A B C D : Type} {p q r a b c d e f g i : A→B→C→D→Prop} {G : Prop} (h : ∃ x y z w,p x y z w∧q x y z w∧r x y z w∧a x y z w∧b x y z w∧c x y z w∧d x y z w∧e x y z w∧f x y z w∧g x y z w∧i x y z w) (k : ∀ x y z w,p x y z w→q x y z w→r x y z w→a x y z w→b x y z w→c x y z w→d x y z w→e x y z w→f x y z w→g x y z w→i x y z w→G) : G := h.elim fun x h => ex3a11 h (k x)
theorem ex5a11 {A B C D E : Type} {p q r a b c d e f g i : A→B→C→D→E→Prop} {G : Prop} (h : ∃ x y z w u,p x y z w u∧q x y z w u∧r x y z w u∧a x y z w u∧b x y z w u∧c x y z w u∧d x y z w u∧e x y z w u∧f x y z w u∧g x y z w u∧i x y z w u) (k : ∀ x y z w u,p x y z w u→q x y z w u→r x y z w u→a x y z w u→b x y z w u→c x y z w u→d x y z w u→e x y z w u→f x y z w u→g x y z w u→i x y z w u→G) : G := h.elim fun x h => ex4a11 h (k x)
theorem ex6a11 {A B C D E F : Type} {p q r a b c d e f g i : A→B→C→D→E→F→Prop} {G : Prop} (h : ∃ x y z w u v,p x y z w u v∧q x y z w u v∧r x y z w u v∧a x y z w u v∧b x y z w u v∧c x y z w u v∧d x y z w u v∧e x y z w u v∧f x y z w u v∧g x y z w u v∧i x y z w u v) (k : ∀ x y z w u v,p x y z w u v→q x y z w u v→r x y z w u v→a x y z w u v→b x y z w u v→c x y z w u v→d x y z w u v→e x y z w u v→f x y z w u v→g x y z w u v→i x y z w u v→G) : G := h.elim fun x h => ex5a11 h (k x)
theorem ex7a11 {A B C D E F H : Type} {p q r a b c d e f g i : A→B→C→D→E→F→H→Prop} {G : Prop} (h : ∃ x y z w u v s,p x y z w u v s∧q x y z w u v s∧r x y z w u v s∧a x y z w u v s∧b x y z w u v s∧c x y z w u v s∧d x y z w u v s∧e x y z w u v s∧f x y z w u v s∧g x y z w u v s∧i x y z w u v s) (k : ∀ x y z w u v s,p x y z w u v s→q x y z w u v s→r x y z w u v s→a x y z w u v s→b x y z w u v s→c x y z w u v s→d x y z w u v s→e x y z w u v s→f x y z w u v s→g x y z w u v s→i x y z w u v s→G) : G := h.elim fun x h => ex6a11 h (k x)
theorem in2a1 {A B : Type} {p : A→B→Prop} (x : A) (y : B) (k0 : p x y) : ∃ x y,p x y := ⟨x,y,k0⟩
theorem in3a1 {A B C : Type} {p : A→B→C→Prop} (x : A) (y : B) (z : C) (k0 : p x y z) : ∃ x y z,p x y z := ⟨x,in2a1 y z k0⟩
theorem in4a1 {A B C D : Type} {p : A→B→C→D→Prop} (x : A) (y : B) (z : C) (w : D) (k0 : p x y z w) : ∃ x y z w,p x y z w := ⟨x,in3a1 y z w k0⟩
theorem in5a1 {A B C D E : Type} {p : A→B→C→D→E→Prop} (x : A) (y : B) (z : C) (w : D) (u : E) (k0 : p x y z w u) : ∃ x y z w u,p x y z w u := ⟨x,in4a1 y z w u k0⟩
theorem in1a2 {A : Type} {p q : A→Prop} (x : A) (k0 : p x) (k1 : q x) : ∃ x,p x∧q x := ⟨x,k0,k1⟩
theorem in2a2 {A B : Type} {p q : A→B→Prop} (x : A) (y : B) (k0 : p x y) (k1 : q x y) : ∃ x y,p x y∧q x y := ⟨x,in1a2 y k0 k1⟩
theorem in3a2 {A B C : Type} {p q : A→B→C→Prop} (x : A) (y : B) (z : C) (k0 : p x y z) (k1 : q x y z) : ∃ x y z,p x y z∧q x y z := ⟨x,in2a2 y z k0 k1⟩
theorem in4a2 {A B C D : Type} {p q : A→B→C→D→Prop} (x : A) (y : B) (z : C) (w : D) (k0 : p x y z w) (k1 : q x y z w) : ∃ x y z w,p x y z w∧q x y z w := ⟨x,in3a2 y z w k0 k1⟩
theorem in5a2 {A B C D E : Type} {p q : A→B→C→D→E→Prop} (x : A) (y : B) (z : C) (w : D) (u : E) (k0 : p x y z w u) (k1 : q x y z w u) : ∃ x y z w u,p x y z w u∧q x y z w u := ⟨x,in4a2 y z w u k0 k1⟩
theorem in6a2 {A B C D E F : Type} {p q : A→B→C→D→E→F→Prop} (x : A) (y : B) (z : C) (w : D) (u : E) (v : F) (k0 : p x y z w u v) (k1 : q x y z w u v) : ∃ x y z w u v,p x y z w u v∧q x y z w u v := ⟨x,in5a2 y z w u v k0 k1⟩
theorem in7a2 {A B C D E F H : Type} {p q : A→B→C→D→E→F→H→Prop} (x : A) (y : B) (z : C) (w : D) (u : E) (v : F) (s : H) (k0 : p x y z w u v s) (k1 : q x y z w u v s) : ∃ x y z w u v s,p x y z w u v s∧q x y z w u v s := ⟨x,in6a2 y z w u v s k0 k1⟩
theorem in0a3 {p q r : Prop} (k0 : p) (k1 : q) (k2 : r) : p∧q∧r := ⟨k0,k1,k2⟩
theorem in1a3 {A : Type} {p q r : A→Prop} (x : A) (k0 : p x) (k1 : q x) (k2 : r x) : ∃ x,p x∧q x∧r x := ⟨x,in0a3 k0 k1 k2⟩
theorem in2a3 {A B : Type} {p q r : A→B→Prop} (x : A) (y : B) (k0 : p x y) (k1 : q x y) (k2 : r x y) : ∃ x y,p x y∧q x y∧r x y := ⟨x,in1a3 y k0 k1 k2⟩
theorem in3a3 {A B C : Type} {p q r : A→B→C→Prop} (x : A) (y : B) (z : C) (k0 : p x y z) (k1 : q x y z) (k2 : r x y z) : ∃ x y z,p x y z∧q x y z∧r x y z := ⟨x,in2a3 y z k0 k1 k2⟩
theorem in4a3 {A B C D : Type} {p q r : A→B→C→D→Prop} (x : A) (y : B) (z : C) (w : D) (k0 : p x y z w) (k1 : q x y z w) (k2 : r x y z w) : ∃ x y z w,p x y z w∧q x y z w∧r x y z w := ⟨x,in3a3 y z w k0 k1 k2⟩
theorem in0a4 {p q r a : Prop} (k0 : p) (k1 : q) (k2 : r) (k3 : a) : p∧q∧r∧a := ⟨k0,in0a3 k1 k2 k3⟩
theorem in1a4 {A : Type} {p q r a : A→Prop} (x : A) (k0 : p x) (k1 : q x) (k2 : r x) (k3 : a x) : ∃ x,p x∧q x∧r x∧a x := ⟨x,in0a4 k0 k1 k2 k3⟩
theorem in2a4 {A B : Type} {p q r a : A→B→Prop} (x : A) (y : B) (k0 : p x y) (k1 : q x y) (k2 : r x y) (k3 : a x y) : ∃ x y,p x y∧q x y∧r x y∧a x y := ⟨x,in1a4 y k0 k1 k2 k3⟩
theorem in3a4 {A B C : Type} {p q r a : A→B→C→Prop} (x : A) (y : B) (z : C) (k0 : p x y z) (k1 : q x y z) (k2 : r x y z) (k3 : a x y z) : ∃ x y z,p x y z∧q x y z∧r x y z∧a x y z := ⟨x,in2a4 y z k0 k1 k2 k3⟩
theorem in4a4 {A B C D : Type} {p q r a : A→B→C→D→Prop} (x : A) (y : B) (z : C) (w : D) (k0 : p x y z w) (k1 : q x y z w) (k2 : r x y z w) (k3 : a x y z w) : ∃ x y z w,p x y z w∧q x y z w∧r x y z w∧a x y z w := ⟨x,in3a4 y z w k0 k1 k2 k3⟩
theorem in5a4 {A B C D E : Type} {p q r a : A→B→C→D→E→Prop} (x : A) (y : B) (z : C) (w : D) (u : E) (k0 : p x y z w u) (k1 : q x y z w u) (k2 : r x y z w u) (k3 : a x y z w u) : ∃ x y z w u,p x y z w u∧q x y z w u∧r x y z w u∧a x y z w u := ⟨x,in4a4 y z w u k0 k1 k2 k3⟩
theorem in6a4 {A B C D E F : Type} {p q r a : A→B→C→D→E→F→Prop} (x : A) (y : B) (z : C) (w : D) (u : E) (v : F) (k0 : p x y z w u v) (k1 : q x y z w u v) (k2 : r x y z w u v) (k3 : a x y z w u v) : ∃ x y z w u v,p x y z w u v∧q x y z w u v∧r x y z w u v∧a x y z w u v := ⟨x,in5a4 y z w u v k0 k1 k2 k3⟩
theorem in0a5 {p q r a b : Prop} (k0 : p) (k1 : q) (k2 : r) (k3 : a) (k4 : b) : p∧q∧r∧a∧b := ⟨k0,in0a4 k1 k2 k3 k4⟩
theorem in1a5 {A : Type} {p q r a b : A→Prop} (x : A) (k0 : p x) (k1 : q x) (k2 : r x) (k3 : a x) (k4 : b x) : ∃ x,p x∧q x∧r x∧a x∧b x := ⟨x,in0a5 k0 k1 k2 k3 k4⟩
theorem in2a5 {A B : Type} {p q r a b : A→B→Prop} (x : A) (y : B) (k0 : p x y) (k1 : q x y) (k2 : r x y) (k3 : a x y) (k4 : b x y) : ∃ x y,p x y∧q x y∧r x y∧a x y∧b x y := ⟨x,in1a5 y k0 k1 k2 k3 k4⟩
theorem in3a5 {A B C : Type} {p q r a b : A→B→C→Prop} (x : A) (y : B) (z : C) (k0 : p x y z) (k1 : q x y z) (k2 : r x y z) (k3 : a x y z) (k4 : b x y z) : ∃ x y z,p x y z∧q x y z∧r x y z∧a x y z∧b x y z := ⟨x,in2a5 y z k0 k1 k2 k3 k4⟩
theorem in4a5 {A B C D : Type} {p q r a b : A→B→C→D→Prop} (x : A) (y : B) (z : C) (w : D) (k0 : p x y z w) (k1 : q x y z w) (k2 : r x y z w) (k3 : a x y z w) (k4 : b x y z w) : ∃ x y z w,p x y z w∧q x y z w∧r x y z w∧a x y z w∧b x y z w := ⟨x,in3a5 y z w k0 k1 k2 k3 k4⟩
theorem in5a5 {A B C D E : Type} {p q r a b : A→B→C→D→E→Prop} (x : A) (y : B) (z : C) (w : D) (u : E) (k0 : p x y z w u) (k1 : q x y z w u) (k2 : r x y z w u) (k3 : a x y z w u) (k4 : b x y z w u) : ∃ x y z w u,p x y z w u∧q x y z w u∧r x y z w u∧a x y z w u∧b x y z w u := ⟨x,in4a5 y z w u k0 k1 k2 k3 k4⟩
theorem in6a5 {A B C D E F : Type} {p q r a b : A→B→C→D→E→F→Prop} (x : A) (y : B) (z : C) (w : D) (u : E) (v : F) (k0 : p x y z w u v) (k1 : q x y z w u v) (k2 : r x y z w u v) (k3 : a x y z w u v) (k4 : b x y z w u v) : ∃ x y z w u v,p x y z w u v∧q x y z w u v∧r x y z w u v∧a x y z w u v∧b x y z w u v := ⟨x,in5a5 y z w u v k0 k1 k2 k3 k4⟩
theorem in7a5 {A B C D E F H : Type} {p q r a b : A→B→C→D→E→F→H→Prop} (x : A) (y : B) (z : C) (w : D) (u : E) (v : F) (s : H) (k0 : p x y z w u v s) (k1 : q x y z w u v s) (k2 : r x y z w u v s) (k3 : a x y z w u v s) (k4 : b x y z w u v s) : ∃ x y z w u v s,p x y z w u v s∧q x y z w u v s∧r x y z w u v s∧a x y z w u v s∧b x y z w u v s := ⟨x,in6a5 y z w u v s k0 k1 k2 k3 k4⟩
theorem in0a6 {p q r a b c : Prop} (k0 : p) (k1 : q) (k2 : r) (k3 : a) (k4 : b) (k5 : c) : p∧q∧r∧a∧b∧c := ⟨k0,in0a5 k1 k2 k3 k4 k5⟩
theorem in1a6 {A : Type} {p q r a b c : A→Prop} (x : A) (k0 : p x) (k1 : q x) (k2 : r x) (k3 : a x) (k4 : b x) (k5 : c x) : ∃ x,p x∧q x∧r x∧a x∧b x∧c x := ⟨x,in0a6 k0 k1 k2 k3 k4 k5⟩
theorem in2a6 {A B : Type} {p q r a b c : A→B→Prop} (x : A) (y : B) (k0 : p x y) (k1 : q x y) (k2 : r x y) (k3 : a x y) (k4 : b x y) (k5 : c x y) : ∃ x y,p x y∧q x y∧r x y∧a x y∧b x y∧c x y := ⟨x,in1a6 y k0 k1 k2 k3 k4 k5⟩
theorem in3a6 {A B C : Type} {p q r a b c : A→B→C→Prop} (x : A) (y : B) (z : C) (k0 : p x y z) (k1 : q x y z) (k2 : r x y z) (k3 : a x y z) (k4 : b x y z) (k5 : c x y z) : ∃ x y z,p x y z∧q x y z∧r x y z∧a x y z∧b x y z∧c x y z := ⟨x,in2a6 y z k0 k1 k2 k3 k4 k5⟩
theorem in4a6 {A B C D : Type} {p q r a b c : A→B→C→D→Prop} (x : A) (y : B) (z : C) (w : D) (k0 : p x y z w) (k1 : q x y z w) (k2 : r x y z w) (k3 : a x y z w) (k4 : b x y z w) (k5 : c x y z w) : ∃ x y z w,p x y z w∧q x y z w∧r x y z w∧a x y z w∧b x y z w∧c x y z w := ⟨x,in3a6 y z w k0 k1 k2 k3 k4 k5⟩
theorem in5a6 {A B C D E : Type} {p q r a b c : A→B→C→D→E→Prop} (x : A) (y : B) (z : C) (w : D) (u : E) (k0 : p x y z w u) (k1 : q x y z w u) (k2 : r x y z w u) (k3 : a x y z w u) (k4 : b x y z w u) (k5 : c x y z w u) : ∃ x y z w u,p x y z w u∧q x y z w u∧r x y z w u∧a x y z w u∧b x y z w u∧c x y z w u := ⟨x,in4a6 y z w u k0 k1 k2 k3 k4 k5⟩
theorem in6a6 {A B C D E F : Type} {p q r a b c : A→B→C→D→E→F→Prop} (x : A) (y : B) (z : C) (w : D) (u : E) (v : F) (k0 : p x y z w u v) (k1 : q x y z w u v) (k2 : r x y z w u v) (k3 : a x y z w u v) (k4 : b x y z w u v) (k5 : c x y z w u v) : ∃ x y z w u v,p x y z w u v∧q x y z w u v∧r x y z w u v∧a x y z w u v∧b x y z w u v∧c x y z w u v := ⟨x,in5a6 y z w u v k0 k1 k2 k3 k4 k5⟩
theorem in7a6 {A B C D E F H : Type} {p q r a b c : A→B→C→D→E→F→H→Prop} (x : A) (y : B) (z : C) (w : D) (u : E) (v : F) (s : H) (k0 : p x y z w u v s) (k1 : q x y z w u v s) (k2 : r x y z w u v s) (k3 : a x y z w u v s) (k4 : b x y z w u v s) (k5 : c x y z w u v s) : ∃ x y z w u v s,p x y z w u v s∧q x y z w u v s∧r x y z w u v s∧a x y z w u v s∧b x y z w u v s∧c x y z w u v s := ⟨x,in6a6 y z w u v s k0 k1 k2 k3 k4 k5⟩
theorem in8a6 {A B C D E F H I : Type} {p q r a b c : A→B→C→D→E→F→H→I→Prop} (x : A) (y : B) (z : C) (w : D) (u : E) (v : F) (s : H) (t : I) (k0 : p x y z w u v s t) (k1 : q x y z w u v s t) (k2 : r x y z w u v s t) (k3 : a x y z w u v s t) (k4 : b x y z w u v s t) (k5 : c x y z w u v s t) : ∃ x y z w u v s t,p x y z w u v s t∧q x y z w u v s t∧r x y z w u v s t∧a x y z w u v s t∧b x y z w u v s t∧c x y z w u v s t := ⟨x,in7a6 y z w u v s t k0 k1 k2 k3 k4 k5⟩
theorem in0a7 {p q r a b c d : Prop} (k0 : p) (k1 : q) (k2 : r) (k3 : a) (k4 : b) (k5 : c) (k6 : d) : p∧q∧r∧a∧b∧c∧d := ⟨k0,in0a6 k1 k2 k3 k4 k5 k6⟩
theorem in1a7 {A : Type} {p q r a b c d : A→Prop} (x : A) (k0 : p x) (k1 : q x) (k2 : r x) (k3 : a x) (k4 : b x) (k5 : c x) (k6 : d x) : ∃ x,p x∧q x∧r x∧a x∧b x∧c x∧d x := ⟨x,in0a7 k0 k1 k2 k3 k4 k5 k6⟩
theorem in2a7 {A B : Type} {p q r a b c d : A→B→Prop} (x : A) (y : B) (k0 : p x y) (k1 : q x y) (k2 : r x y) (k3 : a x y) (k4 : b x y) (k5 : c x y) (k6 : d x y) : ∃ x y,p x y∧q x y∧r x y∧a x y∧b x y∧c x y∧d x y := ⟨x,in1a7 y k0 k1 k2 k3 k4 k5 k6⟩
theorem in3a7 {A B C : Type} {p q r a b c d : A→B→C→Prop} (x : A) (y : B) (z : C) (k0 : p x y z) (k1 : q x y z) (k2 : r x y z) (k3 : a x y z) (k4 : b x y z) (k5 : c x y z) (k6 : d x y z) : ∃ x y z,p x y z∧q x y z∧r x y z∧a x y z∧b x y z∧c x y z∧d x y z := ⟨x,in2a7 y z k0 k1 k2 k3 k4 k5 k6⟩
theorem in4a7 {A B C D : Type} {p q r a b c d : A→B→C→D→Prop} (x : A) (y : B) (z : C) (w : D) (k0 : p x y z w) (k1 : q x y z w) (k2 : r x y z w) (k3 : a x y z w) (k4 : b x y z w) (k5 : c x y z w) (k6 : d x y z w) : ∃ x y z w,p x y z w∧q x y z w∧r x y z w∧a x y z w∧b x y z w∧c x y z w∧d x y z w := ⟨x,in3a7 y z w k0 k1 k2 k3 k4 k5 k6⟩
theorem in5a7 {A B C D E : Type} {p q r a b c d : A→B→C→D→E→Prop} (x : A) (y : B) (z : C) (w : D) (u : E) (k0 : p x y z w u) (k1 : q x y z w u) (k2 : r x y z w u) (k3 : a x y z w u) (k4 : b x y z w u) (k5 : c x y z w u) (k6 : d x y z w u) : ∃ x y z w u,p x y z w u∧q x y z w u∧r x y z w u∧a x y z w u∧b x y z w u∧c x y z w u∧d x y z w u := ⟨x,in4a7 y z w u k0 k1 k2 k3 k4 k5 k6⟩
theorem in0a8 {p q r a b c d e : Prop} (k0 : p) (k1 : q) (k2 : r) (k3 : a) (k4 : b) (k5 : c) (k6 : d) (k7 : e) : p∧q∧r∧a∧b∧c∧d∧e := ⟨k0,in0a7 k1 k2 k3 k4 k5 k6 k7⟩
theorem in1a8 {A : Type} {p q r a b c d e : A→Prop} (x : A) (k0 : p x) (k1 : q x) (k2 : r x) (k3 : a x) (k4 : b x) (k5 : c x) (k6 : d x) (k7 : e x) : ∃ x,p x∧q x∧r x∧a x∧b x∧c x∧d x∧e x := ⟨x,in0a8 k0 k1 k2 k3 k4 k5 k6 k7⟩
theorem in2a8 {A B : Type} {p q r a b c d e : A→B→Prop} (x : A) (y : B) (k0 : p x y) (k1 : q x y) (k2 : r x y) (k3 : a x y) (k4 : b x y) (k5 : c x y) (k6 : d x y) (k7 : e x y) : ∃ x y,p x y∧q x y∧r x y∧a x y∧b x y∧c x y∧d x y∧e x y := ⟨x,in1a8 y k0 k1 k2 k3 k4 k5 k6 k7⟩
theorem in3a8 {A B C : Type} {p q r a b c d e : A→B→C→Prop} (x : A) (y : B) (z : C) (k0 : p x y z) (k1 : q x y z) (k2 : r x y z) (k3 : a x y z) (k4 : b x y z) (k5 : c x y z) (k6 : d x y z) (k7 : e x y z) : ∃ x y z,p x y z∧q x y z∧r x y z∧a x y z∧b x y z∧c x y z∧d x y z∧e x y z := ⟨x,in2a8 y z k0 k1 k2 k3 k4 k5 k6 k7⟩
theorem in4a8 {A B C D : Type} {p q r a b c d e : A→B→C→D→Prop} (x : A) (y : B) (z : C) (w : D) (k0 : p x y z w) (k1 : q x y z w) (k2 : r x y z w) (k3 : a x y z w) (k4 : b x y z w) (k5 : c x y z w) (k6 : d x y z w) (k7 : e x y z w) : ∃ x y z w,p x y z w∧q x y z w∧r x y z w∧a x y z w∧b x y z w∧c x y z w∧d x y z w∧e x y z w := ⟨x,in3a8 y z w k0 k1 k2 k3 k4 k5 k6 k7⟩
theorem in5a8 {A B C D E : Type} {p q r a b c d e : A→B→C→D→E→Prop} (x : A) (y : B) (z : C) (w : D) (u : E) (k0 : p x y z w u) (k1 : q x y z w u) (k2 : r x y z w u) (k3 : a x y z w u) (k4 : b x y z w u) (k5 : c x y z w u) (k6 : d x y z w u) (k7 : e x y z w u) : ∃ x y z w u,p x y z w u∧q x y z w u∧r x y z w u∧a x y z w u∧b x y z w u∧c x y z w u∧d x y z w u∧e x y z w u := ⟨x,in4a8 y z w u k0 k1 k2 k3 k4 k5 k6 k7⟩
theorem in0a9 {p q r a b c d e f : Prop} (k0 : p) (k1 : q) (k2 : r) (k3 : a) (k4 : b) (k5 : c) (k6 : d) (k7 : e) (k8 : f) : p∧q∧r∧a∧b∧c∧d∧e∧f := ⟨k0,in0a8 k1 k2 k3 k4 k5 k6 k7 k8⟩
noncomputable def VR.Inv (h : Heap) (μ : List Addr) (G : Value→Prop) : V→Prop
  | .none => True→G .none
  | .bool b => True→G (.bool b)
  | .int i => ∀ t,G (.int i t)
  | .str l => ∀ t,G (.str ⟨l.toArray⟩ t)
  | .bytes l => ∀ t,G (.bytes l.toArray t)
  | .typ n => True→G (.type n)
  | .rng a b => ∀ r t u v,IsRange h r a b 1 t u v→G (.ref r)
  | .tup vs => ∀ (vals : Array Value) (n : Nat) r,h.get? r = some (tupO vals n)→vs.length = vals.size →
      (∀ (i : Nat) v x,vs[i]? = some v→vals[i]? = some x→VR h μ v x)→G (.ref r)
  | .ref i => ∀ a,μ[i]? = some a→G (.ref a)
  | .ext a => True→G (.ref a)
@[elab_as_elim] theorem VR.inv {h : Heap} {μ : List Addr} {G : Value→Prop} {v : V} {x : Value} (r : VR h μ v x) (k : VR.Inv h μ G v) : G x := by
  cases r with
  | none => exact k trivial
  | bool b => exact k trivial
  | int i t => exact k t
  | str l t => exact k t
  | bytes l t => exact k t
  | typ n => exact k trivial
  | rng hr => exact k _ _ _ _ hr
  | tup h1 h2 h3 => exact k _ _ _ h1 h2 h3
  | ref h => exact k _ h
  | ext a => exact k trivial
noncomputable def OR.Inv (h : Heap) (μ : List Addr) (G : Obj→Prop) : LObj→Prop
  | .lst xs => ∀ (vals : Array Value) (n : Nat),VRs h μ xs vals.toList→G (lstO vals n)
  | .cell v => ∀ (val : Value) ob,ob.data = .cell (some val)→VR h μ v val→G ob
  | .dic kvs => ∀ (es : List DictEntry) (n : Nat),KV h μ kvs es→G { cls := .type "dict",data := .dict es.toArray n }
  | .ins cls d => ∀ (dx : Addr) (sl : Array (Option Value)),μ[d]? = some dx→G ⟨.ref cls,some dx,.plain,sl⟩
  | .rdf D x c => ∀ (ca : Addr) (fd : FuncData) (sl : Array (Option Value)),FdIs fd D→fd.closure = [(x,ca)]→μ[c]? = some ca→CodeImm h fd.code fd.qualname→G ⟨.type "function",none,.func fd,sl⟩
  | .stf d => ∀ (da : Addr) (fd : FuncData) (sl : Array (Option Value)),μ[d]? = some da→G ⟨.type "function",some da,.func fd,sl⟩
  | .cit f true x => ∀ (xa m : Addr) (t : Tok),h.get? m = some { cls := .type "method",data := .fields #[.ref f,.ref xa] }→μ[x]? = some xa→G { cls := .type "callable_iterator",data := .fields #[.ref m,.str ⟨#[]⟩ t,.bool false] }
  | .cit _ false _ => True→G { cls := .type "callable_iterator",data := .fields #[.none,.none,.bool true] }
  | .ecell => ∀ ob : Obj,ob.data = .cell none→G ob
  | .tab ls => ∀ ps : Array Value,TabOk ls ps→G { cls := .none,data := .fields ps }
  | .lam => ∀ (fd : FuncData) (sl : Array (Option Value)),G ⟨.type "function",none,.func fd,sl⟩
@[elab_as_elim] theorem OR.inv {h : Heap} {μ : List Addr} {G : Obj→Prop} {o : LObj} {ob : Obj} (r : OR h μ o ob) (k : OR.Inv h μ G o) : G ob := by
  cases r with
  | lst x => exact k _ _ x
  | cell e x => exact k _ _ e x
  | dic x => exact k _ _ x
  | ins x => exact k _ _ x
  | rdf a b c d => exact k _ _ _ a b c d
  | stf x => exact k _ _ _ x
  | citOn a b => exact k _ _ _ a b
  | citOff => exact k trivial
  | ecell x => exact k _ x
  | tab x => exact k _ x
  | lam => exact k _ _
noncomputable def tupT : Value→Bool
  | .type n => n == "tuple"
  | _ => false
theorem OR.cd {h : Heap} {μ : List Addr} {o : LObj} {ob : Obj} (x : OR h μ o ob) : (∃ c,ob.data = .cell c)∨(tupT ob.cls || immT ob.cls) = false := by
  cases x with
  | cell q _ => exact .inl ⟨_,q⟩
  | ecell q => exact .inl ⟨_,q⟩
  | _ => exact .inr rfl
theorem OR.notImm {h : Heap} {μ : List Addr} {o : LObj} {ob : Obj} (x : OR h μ o ob) : ¬ Imm ob := by
  intro hi
  rcases x.cd with ⟨c,q⟩ | q
  · rcases hi with ⟨_,_,_,h⟩ | ⟨_,_,h⟩ <;> exact nomatch q.symm.trans h
  · obtain ⟨q1,q2⟩ := Bool.or_eq_false_iff.mp q
    rcases hi with ⟨h,_⟩ | ⟨h,_⟩
    · exact absurd (h ▸ q1) (by decide)
    · exact nomatch q2.symm.trans h
theorem VR.mono {h h' : Heap} {μ μ' : List Addr} (hk : ∀ b o,h.get? b = some o→Imm o→h'.get? b = some o) (hμ : ∀ (i : Nat) a,μ[i]? = some a→μ'[i]? = some a)
    {v : V} {x : Value} (H : VR h μ v x) : VR h' μ' v x := by
  induction H with
  | none => exact .none
  | bool b => exact .bool b
  | int i t => exact .int i t
  | str l t => exact .str l t
  | bytes l t => exact .bytes l t
  | typ n => exact .typ n
  | rng hr => exact .rng (hk _ _ hr (.inr ⟨rfl,_,rfl⟩))
  | tup hr hl _ ih => exact .tup (hk _ _ hr (.inl ⟨rfl,_,_,rfl⟩)) hl ih
  | ref h => exact .ref (hμ _ _ h)
  | ext a => exact .ext a
theorem VRs.mono {h h' : Heap} {μ μ' : List Addr} (hk : ∀ b o,h.get? b = some o→Imm o→h'.get? b = some o) (hμ : ∀ (i : Nat) a,μ[i]? = some a→μ'[i]? = some a)
    {v : List V} {x : List Value} (H : VRs h μ v x) : VRs h' μ' v x := ⟨H.1,fun i v x e e' => (H.2 i v x e e').mono hk hμ⟩
theorem KV.mono {h h' : Heap} {μ μ' : List Addr} (hk : ∀ b o,h.get? b = some o→Imm o→h'.get? b = some o) (hμ : ∀ (i : Nat) a,μ[i]? = some a→μ'[i]? = some a)
    {v : List (Str × V)} {x : List DictEntry} (H : KV h μ v x) : KV h' μ' v x := ⟨H.1,fun i v x e e' => ⟨(H.2 i v x e e').1,(H.2 i v x e e').2.mono hk hμ⟩⟩
theorem CodeImm.mono {h h' : Heap} (hk : ∀ b o,h.get? b = some o→Imm o→h'.get? b = some o) {cd : Value} {q : Str} (H : CodeImm h cd q) : CodeImm h' cd q := by
  obtain ⟨c,o,vs,t,e,g,im,r⟩ := H; exact ⟨c,o,vs,t,e,hk _ _ g im,im,r⟩
theorem OR.mono {h h' : Heap} {μ μ' : List Addr} (hk : ∀ b o,h.get? b = some o→Imm o→h'.get? b = some o) (hμ : ∀ (i : Nat) a,μ[i]? = some a→μ'[i]? = some a)
    {o : LObj} {ob : Obj} (H : OR h μ o ob) : OR h' μ' o ob := by
  cases H with
  | lst x => exact .lst (x.mono hk hμ)
  | cell e x => exact .cell e (x.mono hk hμ)
  | dic x => exact .dic (x.mono hk hμ)
  | ins x => exact .ins (hμ _ _ x)
  | rdf a b c d => exact .rdf a b (hμ _ _ c) (d.mono hk)
  | stf x => exact .stf (hμ _ _ x)
  | citOn a b => exact .citOn (hk _ _ a (.inr ⟨rfl,_,rfl⟩)) (hμ _ _ b)
  | citOff => exact .citOff
  | ecell x => exact .ecell x
  | tab x => exact .tab x
  | lam => exact .lam
structure Cx where
  prog : Program
  w : World
  H0 : Heap
  mg : Str→Option Value
  mb : Str→Option Value
  g : H0.Ns mainGlobals mg
  b : H0.Ns builtinsNs mb
  boot : ∀ x : Str,x≠"__name__"→mb x = bootBuiltins x
  nolimit : H0.NoLimit
  K : PySem.W.Frag
  kin : PySem.W.Frag.In K H0
  pin : List (Nat × Addr)
noncomputable abbrev Cx.M (C : Cx) : Model := model C.prog C.w
structure Fm where
  env : Env
  slots : List (Str × Option Addr)
  own : List Addr
noncomputable def Fm.wr (fm : Fm) : List Addr := fm.env.locals :: fm.own
structure FmOk (fm : Fm) : Prop where
  kind : fm.env.scope.kind = .function
  globals : fm.env.globals = mainGlobals
  builtins : fm.env.builtins = builtinsNs
  names : (fm.slots.map (·.1)).Nodup
  cells : (fm.slots.filterMap (·.2)).Nodup
  own : ∀ a ∈ fm.own,∃ x,(x,some a) ∈ fm.slots
noncomputable def slotOk (h : Heap) (μ : List Addr) (m : Str→Option Value) (x : Str × Option Addr) (v : Option V) : Prop := match x.2,v with
  | none,none => True
  | none,some v => ∃ val,m x.1 = some val∧VR h μ v val
  | some c,none => ∃ w,h.IsCell c w
  | some c,some v => ∃ val,h.IsCell c (some val)∧VR h μ v val
structure Rel (C : Cx) (fm : Fm) (μ : List Addr) (st : St) (s : Shared) : Prop where
  base : ∀ b o,C.H0.get? b = some o→s.heap.get? b = some o
  ns : ∃ m,s.heap.Ns fm.env.locals m∧∀ (i : Nat) x v,fm.slots[i]? = some x→st.loc[i]? = some v→slotOk s.heap μ m x v
  slen : fm.slots.length = st.loc.length
  loc0 : C.H0.get? fm.env.locals = none
  cell0 : ∀ x c,(x,some c) ∈ fm.slots→C.H0.get? c = none
  len : μ.length = st.g.length
  objs : ∀ (i : Nat) a o,μ[i]? = some a→st.g[i]? = some o→∃ ob,s.heap.get? a = some ob∧OR s.heap μ o ob
  nd : μ.Nodup
  mu0 : ∀ a ∈ μ,C.H0.get? a = none
  apart : ∀ a ∈ μ,a≠fm.env.locals∧∀ x c,(x,some c) ∈ fm.slots→a≠c
  pins : ∀ p ∈ C.pin,μ[p.1]? = some p.2
set_option tactic.hygienic true in
theorem Rel.cellLive {C : Cx} {fm : Fm} {μ : List Addr} {st : St} {s : Shared} (R : Rel C fm μ st s) {x : Str} {c : Addr} (hx : (x,some c) ∈ fm.slots) : ∃ w,s.heap.IsCell c w := by
  obtain ⟨m,_,hs⟩ := R.ns
  obtain ⟨i,hi,e⟩ := List.mem_iff_getElem.mp hx
  have h1 : fm.slots[i]? = some (x,some c) := by rw [List.getElem?_eq_getElem hi,e]
  have h2 : i < st.loc.length := R.slen ▸ hi
  have := hs i _ _ h1 (List.getElem?_eq_getElem h2)
  unfold slotOk at this
  split at this
  · rename_i e _; cases e
  · rename_i e _; cases e
  · rename_i e _; cases e; exact this
  · rename_i e _; cases e; exact ⟨_,this.choose_spec.1⟩
theorem Rel.muLive {C : Cx} {fm : Fm} {μ : List Addr} {st : St} {s : Shared} (R : Rel C fm μ st s) {a : Addr} (ha : a ∈ μ) : ∃ o ob,s.heap.get? a = some ob∧OR s.heap μ o ob := by
  obtain ⟨i,hi,e⟩ := List.mem_iff_getElem.mp ha
  have h1 : μ[i]? = some a := by rw [List.getElem?_eq_getElem hi,e]
  have h2 : i < st.g.length := R.len ▸ hi
  obtain ⟨ob,h3,h4⟩ := R.objs i a _ h1 (List.getElem?_eq_getElem h2)
  exact ⟨_,ob,h3,h4⟩
theorem Rel.imm {C : Cx} {fm : Fm} {μ : List Addr} {st : St} {s : Shared} (R : Rel C fm μ st s) (K : FmOk fm) {a : Addr} {o : Obj} (ho : s.heap.get? a = some o) (hi : Imm o) : a ∉ fm.wr∧a ∉ μ := by
  have hd : (∃ xs n,o.data = .seq xs n)∨∃ vs,o.data = .fields vs := hi.imp (·.2) (·.2)
  refine ⟨fun hm => ?_,fun hm => ?_⟩
  · rcases List.mem_cons.mp hm with rfl | hm
    · obtain ⟨m,⟨o',es,ep,ho',hd',_⟩,_⟩ := R.ns
      rw [ho] at ho'; cases ho'
      rcases hd with ⟨_,_,hd⟩ | ⟨_,hd⟩ <;> rw [hd'] at hd <;> cases hd
    · obtain ⟨x,hx⟩ := K.own a hm
      obtain ⟨w,o',ho',hd'⟩ := R.cellLive hx
      rw [ho] at ho'; cases ho'
      rcases hd with ⟨_,_,hd⟩ | ⟨_,hd⟩ <;> rw [hd'] at hd <;> cases hd
  · obtain ⟨_,ob,h3,h4⟩ := R.muLive hm
    rw [ho] at h3; cases h3
    exact h4.notImm hi
end Mine
end
section
set_option compiler.extract_closed false
namespace Mine
def smp (s : String) (l : Array Lean.Syntax) : Array (Lean.TSyntax [`Lean.Parser.Tactic.simpStar,`Lean.Parser.Tactic.simpErase,`Lean.Parser.Tactic.simpLemma]) :=
  ⟨(s.splitOn " ").map fun n => ⟨Lean.mkNode `Lean.Parser.Tactic.simpLemma #[Lean.mkNullNode,Lean.mkNullNode,(Lean.mkIdent (.str `Mine n)).raw]⟩⟩++l.map (⟨·⟩)
def alt (p : String) (n : Nat) (k : Lean.Ident→Lean.MacroM (Lean.TSyntax `tactic)) : Lean.MacroM (Lean.TSyntax `tactic) := do
  let a ← (List.range n).toArray.mapM fun j => do `(Lean.Parser.Tactic.tacticSeq| $(← k (Lean.mkIdent (.str `Mine s!"{p}{j}a{n-j}"))):tactic)
  `(tactic| first $[| $a]*)
end Mine
local macro_rules
  | `(tactic| obtain ⟨$ps,*⟩ := $e:term) => do
    let ps := ps.getElems
    let n := ps.size
    if n < 2 then Lean.Macro.throwUnsupported
    let rs ← ps.mapM fun p => `(rintroPat| ($p:rcasesPatLo))
    let cl ← if e.raw.isIdent then `(tactic| try clear $e:term) else `(tactic| skip)
    let t ← Mine.alt "ex" n fun f => `(tactic| (refine $f $e ?_; $cl:tactic; rintro $rs*))
    `(tactic| first | $t:tactic | rcases $e:term with ⟨$ps,*⟩)
local macro_rules
  | `(tactic| refine ⟨$es,*⟩) => do
    let es := es.getElems
    let n := es.size
    if n < 3 then Lean.Macro.throwUnsupported
    let t ← Mine.alt "in" n fun f => `(tactic| refine $f $es*)
    `(tactic| first | $t:tactic | refine (⟨$es,*⟩))
local macro_rules
  | `(tactic| exact ⟨$es,*⟩) => if es.getElems.size < 3 then Lean.Macro.throwUnsupported else `(tactic| refine ⟨$es,*⟩)
local macro_rules | `(tactic| injection $h:term) => `(tactic| first | exact Mine.ns $h | refine Mine.si2 $h ?_ | refine Mine.si $h ?_ | refine Mine.VR.inv $h fun _ => ?_ | cases $h:term)
section
namespace Mine
open PySem PyProof.Rows
structure Step (fm : Fm) (μ μ' : List Addr) (h h' : Heap) : Prop where
  keep : ∀ b o,h.get? b = some o→b ∉ fm.wr→b ∉ μ→h'.get? b = some o
  live : ∀ b o,h.get? b = some o→∃ o',h'.get? b = some o'
  ext : ∃ r,μ' = μ++r∧∀ a ∈ r,h.get? a = none∨a ∈ fm.wr
theorem Step.refl (fm : Fm) (μ : List Addr) (h : Heap) : Step fm μ μ h h := ⟨fun _ _ e _ _ => e,fun _ _ e => ⟨_,e⟩,[],by simp,by simp⟩
theorem Step.trans {fm : Fm} {μ μ₁ μ₂ : List Addr} {h h₁ h₂ : Heap} (x : Step fm μ μ₁ h h₁) (y : Step fm μ₁ μ₂ h₁ h₂) : Step fm μ μ₂ h h₂ := by
  obtain ⟨r,rfl,hr⟩ := x.ext
  obtain ⟨r',rfl,hr'⟩ := y.ext
  refine ⟨fun b o e h1 h2 => y.keep b o (x.keep b o e h1 h2) h1 fun hm => ?_,fun b o e => ?_,r++r',by simp,fun a ha => ?_⟩
  · rcases List.mem_append.mp hm with hm | hm
    · exact h2 hm
    · rcases hr b hm with q | q
      · exact off q e
      · exact h1 q
  · obtain ⟨o',e'⟩ := x.live b o e; exact y.live b o' e'
  · rcases List.mem_append.mp ha with ha | ha
    · exact hr a ha
    · rcases hr' a ha with q | q
      · left
        cases e : h.get? a with
        | none => rfl
        | some o => obtain ⟨o',e'⟩ := x.live a o e; exact off q e'
      · exact .inr q
theorem Step.mu {fm : Fm} {μ μ' : List Addr} {h h' : Heap} (x : Step fm μ μ' h h') : ∀ (i : Nat) a,μ[i]? = some a→μ'[i]? = some a := by
  obtain ⟨r,rfl,_⟩ := x.ext
  intro i a e
  rw [List.getElem?_append_left (List.getElem?_eq_some_iff.mp e).1]; exact e
theorem Rel.keepImm {C : Cx} {fm : Fm} {μ μ' : List Addr} {st : St} {s : Shared} {h' : Heap} (R : Rel C fm μ st s) (K : FmOk fm) (x : Step fm μ μ' s.heap h') : ∀ b o,s.heap.get? b = some o→Imm o→h'.get? b = some o :=
  fun b o e hi => x.keep b o e (R.imm K e hi).1 (R.imm K e hi).2
theorem VR.step {C : Cx} {fm : Fm} {μ μ' : List Addr} {st : St} {s : Shared} {h' : Heap} {v : V} {x : Value} (H : VR s.heap μ v x) (R : Rel C fm μ st s) (K : FmOk fm) (S : Step fm μ μ' s.heap h') : VR h' μ' v x :=
  H.mono (R.keepImm K S) S.mu
theorem VRs.step {C : Cx} {fm : Fm} {μ μ' : List Addr} {st : St} {s : Shared} {h' : Heap} {v : List V} {x : List Value} (H : VRs s.heap μ v x) (R : Rel C fm μ st s) (K : FmOk fm) (S : Step fm μ μ' s.heap h') : VRs h' μ' v x :=
  H.mono (R.keepImm K S) S.mu
noncomputable def Post {α β : Type} (C : Cx) (fm : Fm) (ρ : Heap→List Addr→α→β→Prop) (μ : List Addr) (s : Shared) (a : α) (st' : St) (b : β) (s' : Shared) : Prop :=
  ∃ μ' h' tk,s' = { s with heap := h',toks := tk }∧Step fm μ μ' s.heap h'∧Rel C fm μ' st' s'∧ρ h' μ' a b
noncomputable abbrev NoE : Value→Shared→Prop := fun _ _ => False
structure OkA (d : Nat) (A : Around) : Prop where
  handled : A.handled = none
  depth : A.depth + d < recursionLimit
  units : A.units + 8 * d < cLine
noncomputable def Snd {α β : Type} (C : Cx) (A : Around) (fm : Fm) (ρ : Heap→List Addr→α→β→Prop) (t : Sem β) (f : LM α) : Prop :=
  ∀ st a st',f st = some (a,st')→∀ μ s,Rel C fm μ st s→wpAny C.M A t (Post C fm ρ μ s a st') NoE s
section
variable {C : Cx} {A : Around} {fm : Fm} {α β γ δ : Type} {ρ : Heap→List Addr→α→β→Prop} {ρ' : Heap→List Addr→γ→δ→Prop}
theorem Rel.toks {μ : List Addr} {st : St} {s : Shared} (R : Rel C fm μ st s) (tk : Nat) : Rel C fm μ st { s with toks := tk } := ⟨R.base,R.ns,R.slen,R.loc0,R.cell0,R.len,R.objs,R.nd,R.mu0,R.apart,R.pins⟩
theorem Post.same {μ : List Addr} {st : St} {s : Shared} {a : α} {b : β} (R : Rel C fm μ st s) (h : ρ s.heap μ a b) : Post C fm ρ μ s a st b s :=
  ⟨μ,s.heap,s.toks,rfl,.refl ..,R,h⟩
theorem Post.tok {μ : List Addr} {st : St} {s : Shared} {a : α} {b : β} {tk : Nat} (R : Rel C fm μ st s) (h : ρ s.heap μ a b) : Post C fm ρ μ s a st b { s with toks := tk } :=
  ⟨μ,s.heap,tk,rfl,.refl ..,R.toks tk,h⟩
theorem Post.then {μ μ₁ : List Addr} {st₂ : St} {s s₁ : Shared} {h₁ : Heap} {tk₁ : Nat} {c : γ} {d : δ} {s₂ : Shared} (e : s₁ = { s with heap := h₁,toks := tk₁ }) (S : Step fm μ μ₁ s.heap h₁)
    (h : Post C fm ρ' μ₁ s₁ c st₂ d s₂) : Post C fm ρ' μ s c st₂ d s₂ := by
  subst e
  obtain ⟨μ₂,h₂,tk₂,rfl,S₂,R₂,r⟩ := h
  exact ⟨μ₂,h₂,tk₂,rfl,S.trans S₂,R₂,r⟩
theorem zo {μ : List Addr} {st₁ : St} {s : Shared} {a : α} {t : Sem β} {k : β→Shared→Prop} (h : wpAny C.M A t (Post C fm ρ μ s a st₁) NoE s)
    (hk : ∀ b μ₁ h₁ tk₁,Step fm μ μ₁ s.heap h₁→Rel C fm μ₁ st₁ { s with heap := h₁,toks := tk₁ }→ρ h₁ μ₁ a b→k b { s with heap := h₁,toks := tk₁ }) :
    wpAny C.M A t k NoE s := by
  refine wpAny_mono h (fun b s' hp => ?_) fun _ _ e => e
  obtain ⟨μ₁,h₁,tk₁,rfl,S,R,r⟩ := hp
  exact hk b μ₁ h₁ tk₁ S R r
end
noncomputable def ldE (i : Nat) : LM V := fun st => match st.loc[i]? with
  | some (some v) => some (v,st)
  | _ => none
noncomputable def stS (i : Nat) (v : V) : LM Unit := fun st => some ((),{ st with loc := st.loc.set i (some v) })
section
variable {C : Cx} {A : Around} {fm : Fm}
noncomputable abbrev UR : Heap→List Addr→Unit→Unit→Prop := fun _ _ _ _ => True
theorem getElem?_of_nodup_map {α β : Type} {f : α→β} {l : List α} (h : (l.map f).Nodup) {i j : Nat} {a b : α} (hi : l[i]? = some a) (hj : l[j]? = some b) (e : f a = f b) : i = j := by
  obtain ⟨h1,rfl⟩ := List.getElem?_eq_some_iff.mp hi
  obtain ⟨h2,rfl⟩ := List.getElem?_eq_some_iff.mp hj
  have hp := List.pairwise_iff_getElem.mp h
  rcases Nat.lt_trichotomy i j with q | q | q
  · exact absurd (by rw [List.getElem_map,List.getElem_map]; exact e) (hp i j (by simpa using h1) (by simpa using h2) q)
  · exact q
  · exact absurd (by rw [List.getElem_map,List.getElem_map]; exact e.symm) (hp j i (by simpa using h2) (by simpa using h1) q)
set_option tactic.hygienic true in
theorem za {x : Str} {pos : Pos} {i : Nat} (K : FmOk fm) (hs : fm.slots[i]? = some (x,none)) (hl : fm.env.kindOf x = some .local)
    (hd : (x == ("__debug__" : Str)) = false := by decide) : Snd C A fm VR (eval (.Name x pos) fm.env) (ldE i) := by
  intro st a st' hf μ s R
  unfold ldE at hf
  split at hf
  · rename_i v hv
    injection hf
    obtain ⟨m,hn,ho⟩ := R.ns
    obtain ⟨val,hm,hr⟩ := ho i _ _ hs hv
    exact wpAny_Name (wpAny_loadName_local K.kind hl hn hm (Post.same R hr)) hd
  · injection hf
set_option tactic.hygienic true in
theorem z6 {x : Str} {pos : Pos} {i : Nat} {c : Addr} (K : FmOk fm) (hs : fm.slots[i]? = some (x,some c)) (hl : fm.env.kindOf x = some .cell) (hc : fm.env.cells.lookup x = some c)
    (hd : (x == ("__debug__" : Str)) = false := by decide) : Snd C A fm VR (eval (.Name x pos) fm.env) (ldE i) := by
  intro st a st' hf μ s R
  unfold ldE at hf
  split at hf
  · rename_i v hv
    injection hf
    obtain ⟨m,hn,ho⟩ := R.ns
    obtain ⟨val,hm,hr⟩ := ho i _ _ hs hv
    exact wpAny_Name (wpAny_loadName_cell K.kind hl hc hm (Post.same R hr)) hd
  · injection hf
theorem Rel.neL {μ : List Addr} {st : St} {s : Shared} (R : Rel C fm μ st s) {x : Str} {c : Addr} (hx : (x,some c) ∈ fm.slots) : c≠fm.env.locals := by
  intro e
  obtain ⟨w,o,ho,hd⟩ := R.cellLive hx
  obtain ⟨m,⟨o',es,ep,ho',hd',_⟩,_⟩ := R.ns
  rw [e,ho'] at ho; cases ho
  rw [hd] at hd'; cases hd'
theorem Rel.muNeL {μ : List Addr} {st : St} {s : Shared} (R : Rel C fm μ st s) {a : Addr} (ha : a ∈ μ) : a≠fm.env.locals := by
  exact (R.apart a ha).1
theorem Rel.muNeC {μ : List Addr} {st : St} {s : Shared} (R : Rel C fm μ st s) {a : Addr} (ha : a ∈ μ) {x : Str} {c : Addr} (hx : (x,some c) ∈ fm.slots) : a≠c := by
  exact (R.apart a ha).2 x c hx
theorem Step.one {μ : List Addr} {h h' : Heap} {a : Addr} (ha : a ∈ fm.wr) (hs : Heap.SameBut a h h') (hl : ∀ o,h.get? a = some o→∃ o',h'.get? a = some o') : Step fm μ μ h h' := by
  refine ⟨fun b o e h1 _ => (hs.2 b (fun e' => h1 (e' ▸ ha))).trans e,fun b o e => ?_,[],by simp,by simp⟩
  by_cases hb : b = a
  · subst hb; exact hl o e
  · exact ⟨o,(hs.2 b hb).trans e⟩
theorem xd {x : Str} {i : Nat} {v : V} {val : Value} {μ : List Addr} {st : St} {s : Shared} (K : FmOk fm) (hs : fm.slots[i]? = some (x,none)) (hl : fm.env.kindOf x = some .local)
    (R : Rel C fm μ st s) (hv : VR s.heap μ v val) : wpAny C.M A (storeName fm.env x val) (Post C fm UR μ s () { st with loc := st.loc.set i (some v) }) NoE s := by
  obtain ⟨m,hn,ho⟩ := R.ns
  refine wpAny_storeName_local hl hn (fun h' hn' hsb => ?_) (by rw [K.kind]; rfl)
  have S : Step fm μ μ s.heap h' := Step.one (List.mem_cons_self ..) hsb fun o _ => let ⟨o',_,_,e,_⟩ := hn'; ⟨o',e⟩
  have keepImm := R.keepImm K S
  refine ⟨μ,h',s.toks + 1,rfl,S,⟨?_,⟨_,hn',?_⟩,?_,R.loc0,R.cell0,R.len,?_,R.nd,R.mu0,R.apart,R.pins⟩,trivial⟩
  · intro b o e
    exact (hsb.2 b (gne R.loc0 e)).trans (R.base b o e)
  · intro j y w hj hw
    simp only at hw
    by_cases hij : j = i
    · subst hij
      rw [hs] at hj; cases hj
      have hlt : j < st.loc.length := R.slen ▸ (List.getElem?_eq_some_iff.mp hs).1
      rw [List.getElem?_set_self hlt] at hw; injection hw
      exact ⟨val,by simp,hv.mono keepImm fun _ _ e => e⟩
    · rw [List.getElem?_set_ne (Ne.symm hij)] at hw
      have := ho j y w hj hw
      have hne : ∀ {z : Str} {q : Option Addr},y = (z,q)→z≠x := by
        rintro z q rfl rfl
        exact hij (getElem?_of_nodup_map K.names hj hs rfl)
      obtain ⟨z,q⟩ := y
      unfold slotOk at this ⊢
      cases q with
      | none => cases w with
        | none => trivial
        | some w =>
          obtain ⟨val',e1,e2⟩ := this
          exact ⟨val',(if_neg (hne rfl)).trans e1,e2.mono keepImm fun _ _ e => e⟩
      | some c =>
        have hc : c≠fm.env.locals := R.neL (List.mem_of_getElem? hj)
        cases w with
        | none => exact ⟨_,this.choose_spec.sameBut hsb hc⟩
        | some w =>
          obtain ⟨val',e1,e2⟩ := this
          exact ⟨val',e1.sameBut hsb hc,e2.mono keepImm fun _ _ e => e⟩
  · simp [R.slen]
  · intro j a o hj ho'
    obtain ⟨ob,e1,e2⟩ := R.objs j a o hj ho'
    exact ⟨ob,(hsb.2 a (R.muNeL (List.mem_of_getElem? hj))).trans e1,e2.mono keepImm fun _ _ e => e⟩
theorem zfg {x : Str} {i : Nat} {c : Addr} {v : V} {val : Value} {μ : List Addr} {st : St} {s : Shared} (K : FmOk fm) (hs : fm.slots[i]? = some (x,some c)) (hl : fm.env.kindOf x = some .cell)
    (hc : fm.env.cells.lookup x = some c) (hown : c ∈ fm.own)
    (R : Rel C fm μ st s) (hv : VR s.heap μ v val) : wpAny C.M A (storeName fm.env x val) (Post C fm UR μ s () { st with loc := st.loc.set i (some v) }) NoE s := by
  obtain ⟨m,hn,ho⟩ := R.ns
  obtain ⟨w₀,hc₀⟩ := R.cellLive (List.mem_of_getElem? hs)
  refine wpAny_storeName_cell K.kind hl hc hc₀ fun h' hc' hsb => ?_
  have hcL : c≠fm.env.locals := R.neL (List.mem_of_getElem? hs)
  have S : Step fm μ μ s.heap h' := Step.one (List.mem_cons_of_mem _ hown) hsb fun o _ => let ⟨o',e,_⟩ := hc'; ⟨o',e⟩
  have keepImm := R.keepImm K S
  refine ⟨μ,h',s.toks,rfl,S,⟨?_,⟨m,hn.sameBut hsb (Ne.symm hcL),?_⟩,?_,R.loc0,R.cell0,R.len,?_,R.nd,R.mu0,R.apart,R.pins⟩,trivial⟩
  · intro b o e
    exact (hsb.2 b (gne (R.cell0 x c (List.mem_of_getElem? hs)) e)).trans (R.base b o e)
  · intro j y w hj hw
    simp only at hw
    by_cases hij : j = i
    · subst hij
      rw [hs] at hj; cases hj
      have hlt : j < st.loc.length := R.slen ▸ (List.getElem?_eq_some_iff.mp hs).1
      rw [List.getElem?_set_self hlt] at hw; injection hw
      exact ⟨val,hc',hv.mono keepImm fun _ _ e => e⟩
    · rw [List.getElem?_set_ne (Ne.symm hij)] at hw
      have := ho j y w hj hw
      obtain ⟨z,q⟩ := y
      unfold slotOk at this ⊢
      cases q with
      | none => cases w with
        | none => trivial
        | some w =>
          obtain ⟨val',e1,e2⟩ := this
          exact ⟨val',e1,e2.mono keepImm fun _ _ e => e⟩
      | some c' =>
        have hne : c'≠c := by
          rintro rfl
          have h1 : (z,some c') ∈ fm.slots := List.mem_of_getElem? hj
          have h2 : (x,some c') ∈ fm.slots := List.mem_of_getElem? hs
          refine hij ?_
          have key : ∀ (l : List (Str × Option Addr)),(l.filterMap (·.2)).Nodup→∀ (i j : Nat) (x z : Str),l[i]? = some (x,some c')→l[j]? = some (z,some c')→j = i := by
            intro l
            induction l with
            | nil => intro _ i j x z h; simp at h
            | cons p l ih =>
              intro hnd i j x z hi hj
              have mem : ∀ (k : Nat) (y : Str),l[k]? = some (y,some c')→c' ∈ l.filterMap (·.2) := fun k y h => List.mem_filterMap.mpr ⟨_,List.mem_of_getElem? h,rfl⟩
              cases i with
              | zero =>
                simp at hi; subst hi
                cases j with
                | zero => rfl
                | succ j =>
                  simp at hj
                  simp only [List.filterMap_cons] at hnd
                  exact absurd (mem j z hj) (List.nodup_cons.mp hnd).1
              | succ i =>
                simp at hi
                cases j with
                | zero =>
                  simp at hj; subst hj
                  simp only [List.filterMap_cons] at hnd
                  exact absurd (mem i x hi) (List.nodup_cons.mp hnd).1
                | succ j =>
                  simp at hj
                  refine congrArg (· + 1) (ih ?_ i j x z hi hj)
                  simp only [List.filterMap_cons] at hnd
                  split at hnd
                  · exact hnd
                  · exact (List.nodup_cons.mp hnd).2
          exact key fm.slots K.cells i j x z hs hj
        cases w with
        | none => exact ⟨_,this.choose_spec.sameBut hsb hne⟩
        | some w =>
          obtain ⟨val',e1,e2⟩ := this
          exact ⟨val',e1.sameBut hsb hne,e2.mono keepImm fun _ _ e => e⟩
  · simp [R.slen]
  · intro j a o hj ho'
    obtain ⟨ob,e1,e2⟩ := R.objs j a o hj ho'
    exact ⟨ob,(hsb.2 a (R.muNeC (List.mem_of_getElem? hj) (List.mem_of_getElem? hs))).trans e1,e2.mono keepImm fun _ _ e => e⟩
end
end Mine
end
section
namespace Mine
open PySem PyProof.Rows
noncomputable def kj {α : Type} : LM α := fun _ => none
noncomputable def zd (v : V) : LM V := fun st => some (v,st)
noncomputable def zw {α β : Type} (f : LM α) (g : α→LM β) : LM β := fun st => match f st with
  | some (a,st') => g a st'
  | none => none
noncomputable def optL {α : Type} (o : Option α) : LM α := fun st => match o with
  | some a => some (a,st)
  | none => none
noncomputable def binE (o : V→V→Option V) (f g : LM V) : LM V := zw f fun a => zw g fun b => optL (o a b)
noncomputable def unE (o : V→Option V) (f : LM V) : LM V := zw f fun a => optL (o a)
noncomputable def cmpT (o : List LObj→V→V→Option Bool) (f g : LM V) : LM Bool := zw f fun a => zw g fun b => fun st => optL (o st.g a b) st
noncomputable def chnT (o o' : List LObj→V→V→Option Bool) (f g k : LM V) : LM Bool :=
  zw f fun a => zw g fun b => zw (fun st => optL (o st.g a b) st) fun c => if c then zw k fun d => fun st => optL (o' st.g b d) st else fun st => some (false,st)
noncomputable def boolE (t : LM Bool) : LM V := zw t fun b => zd (.bool b)
noncomputable def truT (o : List LObj→V→Option Bool) (f : LM V) : LM Bool := zw f fun a => fun st => optL (o st.g a) st
noncomputable def notT (t : LM Bool) : LM Bool := zw t fun b => fun st => some (!b,st)
noncomputable def andT (t u : LM Bool) : LM Bool := zw t fun b => if b then u else fun st => some (false,st)
noncomputable def orT (t u : LM Bool) : LM Bool := zw t fun b => if b then fun st => some (true,st) else u
noncomputable def iteL {α : Type} (t : LM Bool) (f g : LM α) : LM α := zw t fun b => if b then f else g
noncomputable def zm : LM Fl := fun st => some (.next,st)
noncomputable def seqS (f g : LM Fl) : LM Fl := zw f fun fl => match fl with
  | .next => g
  | fl => fun st => some (fl,st)
noncomputable def asgS (i : Nat) (f : LM V) : LM Fl := zw f fun v => zw (stS i v) fun _ => zm
noncomputable def retS (f : LM V) : LM Fl := zw f fun v => fun st => some (.ret v,st)
noncomputable def ja (f : LM V) : LM Fl := zw f fun v => match v with
  | .none => zm
  | _ => kj
noncomputable def brkS : LM Fl := fun st => some (.brk,st)
noncomputable def za0 : LM Fl := fun st => some (.cont,st)
noncomputable def jq : Nat→LM Bool→LM Fl→LM Fl
  | 0,_,_ => kj
  | n + 1,t,f => zw t fun b => if b then zw f fun fl => match fl with
      | .next => jq n t f
      | .cont => jq n t f
      | .brk => zm
      | .ret v => fun st => some (.ret v,st)
    else zm
theorem zk {α β : Type} {f : LM α} {g : α→LM β} {st : St} {b : β} {st' : St} (h : zw f g st = some (b,st')) : ∃ a st₁,f st = some (a,st₁)∧g a st₁ = some (b,st') := by
  unfold zw at h
  split at h
  · exact ⟨_,_,by assumption,h⟩
  · injection h
theorem j8 {α : Type} {o : Option α} {st : St} {a : α} {st' : St} (h : optL o st = some (a,st')) : o = some a∧st' = st := by
  unfold optL at h
  split at h
  · injection h; exact ⟨rfl,rfl⟩
  · injection h
noncomputable abbrev BR : Heap→List Addr→Bool→Bool→Prop := fun _ _ a b => a = b
inductive FR (h : Heap) (μ : List Addr) : Fl→Flow→Prop
  | next : FR h μ .next .next
  | brk : FR h μ .brk .brk
  | cont : FR h μ .cont .cont
  | ret {v : V} {x : Value} : VR h μ v x→FR h μ (.ret v) (.ret x)
@[elab_as_elim] theorem FR.inv {h : Heap} {μ : List Addr} {G : Fl→Flow→Prop} {f : Fl} {r : Flow} (x : FR h μ f r) (n : G .next .next) (c : G .cont .cont) (b : G .brk .brk) (t : ∀ v x,VR h μ v x→G (.ret v) (.ret x)) : G f r := by
  cases x with
  | next => exact n
  | brk => exact b
  | cont => exact c
  | ret x => exact t _ _ x
section
variable {C : Cx} {A : Around} {fm : Fm} {d : Nat}
theorem zda {M : Model} {E : Value→Shared→Prop} {s : Shared} {vs keep : List Value} {Q : Unit→Shared→Prop} (h : Q () s) : wpAny M A (release vs keep) Q E s :=
  fun Γ p _ => by rw [Sem.wp_release]; exact h
theorem zgu {M : Model} {E : Value→Shared→Prop} {s : Shared} {vs : List Value} {m : Sem Value} {Q : Value→Shared→Prop} (h : wpAny M A m Q E s) : wpAny M A (operate vs m) Q E s :=
  fun Γ p hΓ => by rw [Sem.wp_operate]; exact h Γ p hΓ
noncomputable abbrev Op2Ok (C : Cx) (A : Around) (fm : Fm) (t : Value→Value→Sem Value) (o : V→V→Option V) : Prop :=
  ∀ a b v,o a b = some v→∀ μ st s x y,Rel C fm μ st s→VR s.heap μ a x→VR s.heap μ b y→wpAny C.M A (t x y) (Post C fm VR μ s v st) NoE s
noncomputable abbrev Op1Ok (C : Cx) (A : Around) (fm : Fm) (t : Value→Sem Value) (o : V→Option V) : Prop :=
  ∀ a v,o a = some v→∀ μ st s x,Rel C fm μ st s→VR s.heap μ a x→wpAny C.M A (t x) (Post C fm VR μ s v st) NoE s
noncomputable abbrev zaf (C : Cx) (A : Around) (fm : Fm) (op : CmpOp) (o : List LObj→V→V→Option Bool) : Prop :=
  ∀ a b c μ st s x y,o st.g a b = some c→Rel C fm μ st s→VR s.heap μ a x→VR s.heap μ b y→wpAny C.M A (compareOp op x y) (fun r s' => r = .bool c∧Post C fm UR μ s () st () s') NoE s
theorem zn {l r : Expr} {op : Operator} {pos : Pos} {f g : LM V} {o : V→V→Option V} (K : FmOk fm) (hl : Snd C A fm VR (eval l fm.env) f) (hr : Snd C A fm VR (eval r fm.env) g)
    (ho : Op2Ok C A fm (binaryOp op) o) : Snd C A fm VR (eval (.BinOp l op r pos) fm.env) (binE o f g) := by
  intro st v st' hf μ s R
  obtain ⟨a,st₁,h1,hf⟩ := zk hf
  obtain ⟨b,st₂,h2,hf⟩ := zk hf
  obtain ⟨h3,rfl⟩ := j8 hf
  refine wpAny_BinOp (zo (hl _ _ _ h1 μ s R) fun x μ₁ h₁ tk₁ S₁ R₁ ra => zo (hr _ _ _ h2 μ₁ _ R₁) fun y μ₂ h₂ tk₂ S₂ R₂ rb => ?_)
  refine wpAny_mono (ho a b v h3 μ₂ _ _ x y R₂ (ra.step R₁ K S₂) rb) (fun z s' h => ?_) fun _ _ e => e
  exact Post.then rfl S₁ (Post.then rfl S₂ h)
theorem zic {x : Expr} {op : UnaryOp} {pos : Pos} {f : LM V} {o : V→Option V} (hl : Snd C A fm VR (eval x fm.env) f)
    (ho : Op1Ok C A fm (unaryOp op) o) : Snd C A fm VR (eval (.UnaryOp op x pos) fm.env) (unE o f) := by
  intro st v st' hf μ s R
  obtain ⟨a,st₁,h1,hf⟩ := zk hf
  obtain ⟨h3,rfl⟩ := j8 hf
  show wpAny _ _ (eval x fm.env >>= fun v => standAt pos >>= fun _ => holding [v] (unaryOp op v)) _ _ _
  refine wpAny_bind (zo (hl _ _ _ h1 μ s R) fun x μ₁ h₁ tk₁ S₁ R₁ ra => wpAny_bind (wpAny_standAt (wpAny_holding ?_)))
  exact wpAny_mono (ho a v h3 μ₁ _ _ x R₁ ra) (fun z s' h => Post.then rfl S₁ h) fun _ _ e => e
theorem zf {l r : Expr} {op : CmpOp} {pos : Pos} {whole : Sem Value} {f g : LM V} {o : List LObj→V→V→Option Bool} (K : FmOk fm) (hl : Snd C A fm VR (eval l fm.env) f) (hr : Snd C A fm VR (eval r fm.env) g)
    (ho : zaf C A fm op o) (hm : behindInMarks op r = false := by with_unfolding_all rfl) : Snd C A fm BR (isTrue (.Compare l [op] [r] pos) fm.env whole) (cmpT o f g) := by
  intro st v st' hf μ s R
  obtain ⟨a,st₁,h1,hf⟩ := zk hf
  obtain ⟨b,st₂,h2,hf⟩ := zk hf
  obtain ⟨h3,rfl⟩ := j8 hf
  refine wpAny_isTrue_Compare1 (zo (hl _ _ _ h1 μ s R) fun x μ₁ h₁ tk₁ S₁ R₁ ra => zo (hr _ _ _ h2 μ₁ _ R₁) fun y μ₂ h₂ tk₂ S₂ R₂ rb => ?_) hm
  refine wpAny_mono (ho a b v μ₂ _ _ x y h3 R₂ (ra.step R₁ K S₂) rb) (fun z s' h => ?_) fun _ _ e => e
  obtain ⟨rfl,μ₃,h₃,tk₃,rfl,S₃,R₃,_⟩ := h
  exact wpAny_truthy_bool (Post.then rfl S₁ (Post.then rfl S₂ (Post.then rfl S₃ (Post.same R₃ rfl))))
theorem snd_cmp {l r : Expr} {op : CmpOp} {pos : Pos} {f g : LM V} {o : List LObj→V→V→Option Bool} (K : FmOk fm) (hl : Snd C A fm VR (eval l fm.env) f) (hr : Snd C A fm VR (eval r fm.env) g)
    (ho : zaf C A fm op o) (hm : behindInMarks op r = false := by with_unfolding_all rfl) : Snd C A fm VR (eval (.Compare l [op] [r] pos) fm.env) (boolE (cmpT o f g)) := by
  intro st v st' hf μ s R
  obtain ⟨c,st₃,hf,h4⟩ := zk hf
  injection h4
  obtain ⟨a,st₁,h1,hf⟩ := zk hf
  obtain ⟨b,st₂,h2,hf⟩ := zk hf
  obtain ⟨h3,rfl⟩ := j8 hf
  refine wpAny_Compare1 (zo (hl _ _ _ h1 μ s R) fun x μ₁ h₁ tk₁ S₁ R₁ ra => zo (hr _ _ _ h2 μ₁ _ R₁) fun y μ₂ h₂ tk₂ S₂ R₂ rb => ?_) hm
  refine wpAny_mono (ho a b c μ₂ _ _ x y h3 R₂ (ra.step R₁ K S₂) rb) (fun z s' h => ?_) fun _ _ e => e
  obtain ⟨rfl,μ₃,h₃,tk₃,rfl,S₃,R₃,_⟩ := h
  exact Post.then rfl S₁ (Post.then rfl S₂ (Post.then rfl S₃ (Post.same R₃ (.bool c))))
theorem vb {l m r : Expr} {op op' : CmpOp} {pos : Pos} {whole : Sem Value} {f g k : LM V} {o o' : List LObj→V→V→Option Bool} (K : FmOk fm) (hl : Snd C A fm VR (eval l fm.env) f) (hm : Snd C A fm VR (eval m fm.env) g) (hr : Snd C A fm VR (eval r fm.env) k)
    (ho : zaf C A fm op o) (ho' : zaf C A fm op' o') (hmm : behindInMarks op' r = false := by with_unfolding_all rfl) : Snd C A fm BR (isTrue (.Compare l [op,op'] [m,r] pos) fm.env whole) (chnT o o' f g k) := by
  intro st v st' hf μ s R
  obtain ⟨a,st₁,h1,hf⟩ := zk hf
  obtain ⟨b,st₂,h2,hf⟩ := zk hf
  obtain ⟨c,st₃,h3,hf⟩ := zk hf
  obtain ⟨h3,rfl⟩ := j8 h3
  show wpAny _ _ (eval l fm.env >>= fun a => testChain pos a [op,op'] [eval m fm.env,markedBehindIn op' r (eval r fm.env)]) _ _ _
  refine wpAny_bind (zo (hl _ _ _ h1 μ s R) fun x μ₁ h₁ tk₁ S₁ R₁ ra => ?_)
  unfold testChain
  refine wpAny_bind (wpAny_holding (zo (hm _ _ _ h2 μ₁ _ R₁) fun y μ₂ h₂ tk₂ S₂ R₂ rb => wpAny_bind (wpAny_standAt (wpAny_bind (wpAny_holding ?_)))))
  refine wpAny_mono (ho a b c μ₂ _ _ x y h3 R₂ (ra.step R₁ K S₂) rb) (fun z s' h => ?_) fun _ _ e => e
  obtain ⟨rfl,μ₃,h₃,tk₃,rfl,S₃,R₃,_⟩ := h
  refine wpAny_bind (zda ?_)
  refine wpAny_bind (wpAny_holding (wpAny_truthy_bool ?_))
  cases c with
  | false =>
    injection hf
    exact wpAny_pure (Post.then rfl S₁ (Post.then rfl S₂ (Post.then rfl S₃ (Post.same R₃ rfl))))
  | true =>
    obtain ⟨e,st₄,h4,hf⟩ := zk hf
    obtain ⟨h5,rfl⟩ := j8 hf
    simp only [if_true]
    unfold testChain
    rw [markedBehindIn_of_false hmm]
    refine wpAny_bind (wpAny_holding (zo (hr _ _ _ h4 μ₃ _ R₃) fun z μ₄ h₄ tk₄ S₄ R₄ rc => wpAny_bind (wpAny_standAt (wpAny_bind ?_))))
    have rb' := (rb.step R₂ K S₃).step R₃ K S₄
    refine zgu ?_
    refine wpAny_mono (ho' b e v μ₄ _ _ y z h5 R₄ rb' rc) (fun q s' h => ?_) fun _ _ e => e
    obtain ⟨rfl,μ₅,h₅,tk₅,rfl,S₅,R₅,_⟩ := h
    exact wpAny_holding (wpAny_truthy_bool (Post.then rfl S₁ (Post.then rfl S₂ (Post.then rfl S₃ (Post.then rfl S₄ (Post.then rfl S₅ (Post.same R₅ rfl)))))))
theorem yf {x : Expr} {pos : Pos} {whole : Sem Value} {t : LM Bool} (h : Snd C A fm BR (isTrue x fm.env (eval x fm.env)) t) : Snd C A fm BR (isTrue (.UnaryOp .Not x pos) fm.env whole) (notT t) := by
  intro st v st' hf μ s R
  obtain ⟨b,st₁,h1,hf⟩ := zk hf
  injection hf
  show wpAny _ _ (isTrue x fm.env (eval x fm.env) >>= fun b => pure (!b)) _ _ _
  refine wpAny_bind (zo (h _ _ _ h1 μ s R) fun y μ₁ h₁ tk₁ S₁ R₁ ra => wpAny_pure (Post.then rfl S₁ (Post.same R₁ ?_)))
  rw [show b = y from ra]
theorem qo {x y : Expr} {rest : List Expr} {pos : Pos} {whole : Sem Value} {t u : LM Bool} (h : Snd C A fm BR (isTrue x fm.env (eval x fm.env)) t)
    (hr : Snd C A fm BR (isTrue (.BoolOp .And (y :: rest) pos) fm.env (eval (.BoolOp .And (y :: rest) pos) fm.env)) u) : Snd C A fm BR (isTrue (.BoolOp .And (x :: y :: rest) pos) fm.env whole) (andT t u) := by
  intro st v st' hf μ s R
  obtain ⟨b,st₁,h1,hf⟩ := zk hf
  show wpAny _ _ (isTrue x fm.env (eval x fm.env) >>= fun b => match BoolOp.And,b with
    | .And,false => pure false
    | .Or,true => pure true
    | _,_ => allTrue .And (y :: rest) fm.env) _ _ _
  refine wpAny_bind (zo (h _ _ _ h1 μ s R) fun z μ₁ h₁ tk₁ S₁ R₁ ra => ?_)
  have : b = z := ra
  subst this
  cases b with
  | false => injection hf; exact wpAny_pure (Post.then rfl S₁ (Post.same R₁ rfl))
  | true => exact wpAny_mono (hr _ _ _ hf μ₁ _ R₁) (fun z s' h => Post.then rfl S₁ h) fun _ _ e => e
theorem qi {x : Expr} {pos : Pos} {whole : Sem Value} {t : LM Bool} (h : Snd C A fm BR (isTrue x fm.env (eval x fm.env)) t) : Snd C A fm BR (isTrue (.BoolOp .And [x] pos) fm.env whole) t := by
  intro st v st' hf μ s R
  show wpAny _ _ (isTrue x fm.env (eval x fm.env) >>= fun b => match BoolOp.And,b with
    | .And,false => pure false
    | .Or,true => pure true
    | _,_ => allTrue .And [] fm.env) _ _ _
  refine wpAny_bind (zo (h _ _ _ hf μ s R) fun z μ₁ h₁ tk₁ S₁ R₁ ra => ?_)
  have : v = z := ra
  subst this
  cases v with
  | false => exact wpAny_pure (Post.then rfl S₁ (Post.same R₁ rfl))
  | true => exact wpAny_pure (Post.then rfl S₁ (Post.same R₁ rfl))
theorem zz {x y : Expr} {rest : List Expr} {pos : Pos} {whole : Sem Value} {t u : LM Bool} (h : Snd C A fm BR (isTrue x fm.env (eval x fm.env)) t)
    (hr : Snd C A fm BR (isTrue (.BoolOp .Or (y :: rest) pos) fm.env (eval (.BoolOp .Or (y :: rest) pos) fm.env)) u) : Snd C A fm BR (isTrue (.BoolOp .Or (x :: y :: rest) pos) fm.env whole) (orT t u) := by
  intro st v st' hf μ s R
  obtain ⟨b,st₁,h1,hf⟩ := zk hf
  show wpAny _ _ (isTrue x fm.env (eval x fm.env) >>= fun b => match BoolOp.Or,b with
    | .And,false => pure false
    | .Or,true => pure true
    | _,_ => allTrue .Or (y :: rest) fm.env) _ _ _
  refine wpAny_bind (zo (h _ _ _ h1 μ s R) fun z μ₁ h₁ tk₁ S₁ R₁ ra => ?_)
  have : b = z := ra
  subst this
  cases b with
  | true => injection hf; exact wpAny_pure (Post.then rfl S₁ (Post.same R₁ rfl))
  | false => exact wpAny_mono (hr _ _ _ hf μ₁ _ R₁) (fun z s' h => Post.then rfl S₁ h) fun _ _ e => e
theorem km {x : Expr} {pos : Pos} {whole : Sem Value} {t : LM Bool} (h : Snd C A fm BR (isTrue x fm.env (eval x fm.env)) t) : Snd C A fm BR (isTrue (.BoolOp .Or [x] pos) fm.env whole) t := by
  intro st v st' hf μ s R
  show wpAny _ _ (isTrue x fm.env (eval x fm.env) >>= fun b => match BoolOp.Or,b with
    | .And,false => pure false
    | .Or,true => pure true
    | _,_ => allTrue .Or [] fm.env) _ _ _
  refine wpAny_bind (zo (h _ _ _ hf μ s R) fun z μ₁ h₁ tk₁ S₁ R₁ ra => ?_)
  have : v = z := ra
  subst this
  cases v with
  | false => exact wpAny_pure (Post.then rfl S₁ (Post.same R₁ rfl))
  | true => exact wpAny_pure (Post.then rfl S₁ (Post.same R₁ rfl))
noncomputable abbrev TruOk (C : Cx) (A : Around) (fm : Fm) (o : List LObj→V→Option Bool) : Prop :=
  ∀ a c μ st s x,o st.g a = some c→Rel C fm μ st s→VR s.heap μ a x→wpAny C.M A (truthy x) (fun r s' => r = c∧Post C fm UR μ s () st () s') NoE s
theorem qa {e : Expr} {f : LM V} {o : List LObj→V→Option Bool} (h : Snd C A fm VR (eval e fm.env) f) (ho : TruOk C A fm o)
    (he : isTrue e fm.env (eval e fm.env) = (do let v ← eval e fm.env; standAt e.pos; holding [v] (truthy v)) := by rfl) : Snd C A fm BR (isTrue e fm.env (eval e fm.env)) (truT o f) := by
  intro st v st' hf μ s R
  obtain ⟨a,st₁,h1,hf⟩ := zk hf
  obtain ⟨h3,rfl⟩ := j8 hf
  rw [he]
  refine wpAny_bind (zo (h _ _ _ h1 μ s R) fun x μ₁ h₁ tk₁ S₁ R₁ ra => wpAny_bind (wpAny_standAt (wpAny_holding ?_)))
  refine wpAny_mono (ho a v μ₁ _ _ x h3 R₁ ra) (fun z s' h => ?_) fun _ _ e => e
  obtain ⟨rfl,μ₃,h₃,tk₃,rfl,S₃,R₃,_⟩ := h
  exact Post.then rfl S₁ (Post.then rfl S₃ (Post.same R₃ rfl))
theorem vj {t b o : Expr} {pos : Pos} {u : LM Bool} {f g : LM V} (ht : Snd C A fm BR (isTrue t fm.env (eval t fm.env)) u) (hb : Snd C A fm VR (eval b fm.env) f) (ho : Snd C A fm VR (eval o fm.env) g) :
    Snd C A fm VR (eval (.IfExp t b o pos) fm.env) (iteL u f g) := by
  intro st v st' hf μ s R
  obtain ⟨c,st₁,h1,hf⟩ := zk hf
  show wpAny _ _ (isTrue t fm.env (eval t fm.env) >>= fun c => if c = true then eval b fm.env else eval o fm.env) _ _ _
  refine wpAny_bind (zo (ht _ _ _ h1 μ s R) fun y μ₁ h₁ tk₁ S₁ R₁ ra => ?_)
  have : c = y := ra
  subst this
  cases c with
  | true => exact wpAny_mono (hb _ _ _ hf μ₁ _ R₁) (fun z s' h => Post.then rfl S₁ h) fun _ _ e => e
  | false => exact wpAny_mono (ho _ _ _ hf μ₁ _ R₁) (fun z s' h => Post.then rfl S₁ h) fun _ _ e => e
theorem zi : Snd C A fm FR (execs [] fm.env) zm := by
  intro st v st' hf μ s R
  injection hf
  exact wpAny_execs_nil (Post.same R .next)
theorem zb {x : Stmt} {rest : List Stmt} {f g : LM Fl} (h : Snd C A fm FR (exec x fm.env) f) (hr : Snd C A fm FR (execs rest fm.env) g) : Snd C A fm FR (execs (x :: rest) fm.env) (seqS f g) := by
  intro st v st' hf μ s R
  obtain ⟨c,st₁,h1,hf⟩ := zk hf
  refine wpAny_execs_cons (zo (h _ _ _ h1 μ s R) fun y μ₁ h₁ tk₁ S₁ R₁ ra => ?_)
  cases ra with
  | next => exact wpAny_mono (hr _ _ _ hf μ₁ _ R₁) (fun z s' h => Post.then rfl S₁ h) fun _ _ e => e
  | brk => injection hf; exact Post.then rfl S₁ (Post.same R₁ .brk)
  | cont => injection hf; exact Post.then rfl S₁ (Post.same R₁ .cont)
  | ret r => injection hf; exact Post.then rfl S₁ (Post.same R₁ (.ret r))
theorem z7 {t : Expr} {b o : List Stmt} {pos : Pos} {u : LM Bool} {f g : LM Fl} (ht : Snd C A fm BR (isTrue t fm.env (eval t fm.env)) u) (hb : Snd C A fm FR (execs b fm.env) f) (ho : Snd C A fm FR (execs o fm.env) g) :
    Snd C A fm FR (exec (.If t b o pos) fm.env) (iteL u f g) := by
  intro st v st' hf μ s R
  obtain ⟨c,st₁,h1,hf⟩ := zk hf
  refine wpAny_If (zo (ht _ _ _ h1 μ s R) fun y μ₁ h₁ tk₁ S₁ R₁ ra => ?_)
  have : c = y := ra
  subst this
  cases c with
  | true => exact wpAny_mono (hb _ _ _ hf μ₁ _ R₁) (fun z s' h => Post.then rfl S₁ h) fun _ _ e => e
  | false => exact wpAny_mono (ho _ _ _ hf μ₁ _ R₁) (fun z s' h => Post.then rfl S₁ h) fun _ _ e => e
theorem zp {e : Expr} {pos : Pos} {f : LM V} (h : Snd C A fm VR (eval e fm.env) f) : Snd C A fm FR (exec (.Return (some e) pos) fm.env) (retS f) := by
  intro st v st' hf μ s R
  obtain ⟨c,st₁,h1,hf⟩ := zk hf
  injection hf
  exact wpAny_Return_some (zo (h _ _ _ h1 μ s R) fun y μ₁ h₁ tk₁ S₁ R₁ ra => Post.then rfl S₁ (Post.same R₁ (.ret ra)))
theorem zfs {pos : Pos} : Snd C A fm FR (exec (.Break pos) fm.env) brkS := by
  intro st v st' hf μ s R
  injection hf
  exact wpAny_bind (wpAny_standAt (wpAny_pure (Post.same R .brk)))
theorem kt {pos : Pos} : Snd C A fm FR (exec (.Continue pos) fm.env) za0 := by
  intro st v st' hf μ s R
  injection hf
  exact wpAny_bind (wpAny_standAt (wpAny_pure (Post.same R .cont)))
theorem ql {e : Expr} {pos : Pos} {f : LM V} (h : Snd C A fm VR (eval e fm.env) f)
    (hi : interactive fm.env = false) (hs : swapsWith e none pos.line fm.env = pure false := by rfl) : Snd C A fm FR (exec (.Expr e pos) fm.env) (ja f) := by
  intro st v st' hf μ s R
  obtain ⟨c,st₁,h1,hf⟩ := zk hf
  refine wpAny_Expr (zo (h _ _ _ h1 μ s R) fun y μ₁ h₁ tk₁ S₁ R₁ ra => ?_) hi hs
  cases ra with
  | none => injection hf; exact Post.then rfl S₁ (Post.same R₁ .next)
  | _ => injection hf
theorem zh {x : Str} {px pos : Pos} {e : Expr} {f : LM V} {i : Nat} (K : FmOk fm) (h : Snd C A fm VR (eval e fm.env) f) (hx : fm.slots[i]? = some (x,none)) (hl : fm.env.kindOf x = some .local)
    (hs : swapsWith e (some (.Name x px)) pos.line fm.env = pure false := by rfl) : Snd C A fm FR (exec (.Assign [.Name x px] e pos) fm.env) (asgS i f) := by
  intro st v st' hf μ s R
  obtain ⟨c,st₁,h1,hf⟩ := zk hf
  injection hf
  refine wpAny_Assign_Name (zo (h _ _ _ h1 μ s R) fun y μ₁ h₁ tk₁ S₁ R₁ ra => ?_) hs
  exact zo (xd K hx hl R₁ ra) fun _ μ₂ h₂ tk₂ S₂ R₂ _ => Post.then rfl S₁ (Post.then rfl S₂ (Post.same R₂ .next))
theorem jy {x : Str} {px pos : Pos} {e : Expr} {f : LM V} {i : Nat} {c : Addr} (K : FmOk fm) (h : Snd C A fm VR (eval e fm.env) f) (hx : fm.slots[i]? = some (x,some c)) (hl : fm.env.kindOf x = some .cell)
    (hc : fm.env.cells.lookup x = some c) (hown : c ∈ fm.own)
    (hs : swapsWith e (some (.Name x px)) pos.line fm.env = pure false := by rfl) : Snd C A fm FR (exec (.Assign [.Name x px] e pos) fm.env) (asgS i f) := by
  intro st v st' hf μ s R
  obtain ⟨c,st₁,h1,hf⟩ := zk hf
  injection hf
  refine wpAny_Assign_Name (zo (h _ _ _ h1 μ s R) fun y μ₁ h₁ tk₁ S₁ R₁ ra => ?_) hs
  exact zo (zfg K hx hl hc hown R₁ ra) fun _ μ₂ h₂ tk₂ S₂ R₂ _ => Post.then rfl S₁ (Post.then rfl S₂ (Post.same R₂ .next))
set_option tactic.hygienic true in
theorem yo {x : Str} {px pos : Pos} {op : Operator} {e : Expr} {f : LM V} {i : Nat} {o : V→V→Option V} (K : FmOk fm) (h : Snd C A fm VR (eval e fm.env) f) (hx : fm.slots[i]? = some (x,none)) (hl : fm.env.kindOf x = some .local)
    (ho : Op2Ok C A fm (inplaceOp op) o) : Snd C A fm FR (exec (.AugAssign (.Name x px) op e pos) fm.env) (asgS i (binE o (ldE i) f)) := by
  intro st v st' hf μ s R
  obtain ⟨c,st₁,h1,hf⟩ := zk hf
  cases hf
  obtain ⟨a,st₂,h2,hf⟩ := zk h1
  obtain ⟨b,st₃,h3,hf⟩ := zk hf
  obtain ⟨h4,rfl⟩ := j8 hf
  unfold ldE at h2
  split at h2
  · rename_i w hw
    cases h2
    obtain ⟨m,hn,hso⟩ := R.ns
    obtain ⟨val,hm,hr⟩ := hso i _ _ hx hw
    refine wpAny_AugAssign_Name (wpAny_loadName_local K.kind hl hn hm ?_)
    refine zo (h _ _ _ h3 μ _ R) fun y μ₁ h₁ tk₁ S₁ R₁ rb => ?_
    refine zo (ho _ _ _ h4 μ₁ _ _ val y R₁ (hr.step R K S₁) rb) fun z μ₂ h₂ tk₂ S₂ R₂ rc => ?_
    exact zo (xd K hx hl R₂ rc) fun _ μ₃ h₃ tk₃ S₃ R₃ _ => Post.then rfl S₁ (Post.then rfl S₂ (Post.then rfl S₃ (Post.same R₃ .next)))
  · injection h2
theorem xf {t : Expr} {b : List Stmt} {pos : Pos} {u : LM Bool} {f : LM Fl} (ht : Snd C A fm BR (isTrue t fm.env (eval t fm.env)) u) (hb : Snd C A fm FR (execs b fm.env) f) (n : Nat) :
    Snd C A fm FR (exec (.While t b [] pos) fm.env) (jq n u f) := by
  intro st v st' hf μ s R
  refine wpAny_While ?_
  refine codeAny_whileLoop (fun k s' => ∃ μ₁ st₁ h₁ tk₁,s' = { s with heap := h₁,toks := tk₁ }∧Step fm μ μ₁ s.heap h₁∧Rel C fm μ₁ st₁ s'∧jq k u f st₁ = some (v,st')) ?_ n ⟨μ,st,s.heap,s.toks,rfl,.refl ..,R,hf⟩
  rintro k s' hx0; obtain ⟨μ₁,st₁,h₁,tk₁,rfl,S₁,R₁,hk⟩ := hx0
  cases k with
  | zero => injection hk
  | succ k =>
    obtain ⟨c,st₂,h2,hk⟩ := zk hk
    refine wpAny_mono (zo (ht _ _ _ h2 μ₁ _ R₁) (k := fun y s₂ => _) fun y μ₂ h₂ tk₂ S₂ R₂ ra => ?_) (fun _ _ q => q) fun _ _ e => e.elim
    have : c = y := ra
    subst this
    cases c with
    | false =>
      injection hk
      simp only [Bool.false_eq_true,if_false]
      exact wpAny_execs_nil (Post.then rfl S₁ (Post.then rfl S₂ (Post.same R₂ .next)))
    | true =>
      simp only [if_true] at hk ⊢
      obtain ⟨fl,st₃,h3,hk⟩ := zk hk
      refine wpAny_mono (zo (hb _ _ _ h3 μ₂ _ R₂) (k := fun y s₂ => _) fun y μ₃ h₃ tk₃ S₃ R₃ rb => ?_) (fun _ _ q => q) fun _ _ e => e.elim
      cases rb with
      | next => exact ⟨k,Nat.lt_succ_self _,μ₃,st₃,h₃,tk₃,rfl,S₁.trans (S₂.trans S₃),R₃,hk⟩
      | cont => exact ⟨k,Nat.lt_succ_self _,μ₃,st₃,h₃,tk₃,rfl,S₁.trans (S₂.trans S₃),R₃,hk⟩
      | brk => injection hk; exact Post.then rfl S₁ (Post.then rfl S₂ (Post.then rfl S₃ (Post.same R₃ .next)))
      | ret r => injection hk; exact Post.then rfl S₁ (Post.then rfl S₂ (Post.then rfl S₃ (Post.same R₃ (.ret r))))
end
end Mine
end
section
namespace Mine
open PySem PyProof.Rows
noncomputable def szL : Nat := 16777216
noncomputable def addV : V→V→Option V
  | .int a,.int b => some (.int (a + b))
  | .str a,.str b => if a.length + b.length≤szL then some (.str (a++b)) else none
  | _,_ => none
noncomputable def subV : V→V→Option V
  | .int a,.int b => some (.int (a - b))
  | _,_ => none
noncomputable def mulV : V→V→Option V
  | .int a,.int b => if b.natAbs < 18446744073709551616 then some (.int (a * b)) else none
  | .str [c],.int n => if 0≤n∧n≤3 then some (.str (List.replicate n.toNat c)) else none
  | _,_ => none
noncomputable def divV : V→V→Option V
  | .int a,.int b => if 0 < b∧b < 1073741824 then some (.int (a / b)) else none
  | _,_ => none
noncomputable def modV : V→V→Option V
  | .int a,.int b => if 0 < b∧b < 1073741824 then some (.int (a % b)) else none
  | _,_ => none
noncomputable def shlV : V→V→Option V
  | .int a,.int b => if 0≤b∧b≤64∧0≤a∧a.toNat < 18446744073709551616 then some (.int (a * 2 ^ b.toNat)) else none
  | _,_ => none
noncomputable def shrV : V→V→Option V
  | .int a,.int b => if 0≤b∧b≤64 then some (.int (a / 2 ^ b.toNat)) else none
  | _,_ => none
noncomputable def andV : V→V→Option V
  | .int a,.int b => some (.int (Builtin.bitAnd a b))
  | _,_ => none
noncomputable def orV : V→V→Option V
  | .int a,.int b => some (.int (Builtin.bitOr a b))
  | _,_ => none
noncomputable def powV : V→V→Option V
  | .int a,.int b => if 0≤b∧b≤64∧0≤a∧a.toNat < 18446744073709551616 then some (.int (a ^ b.toNat)) else none
  | _,_ => none
noncomputable def negV : V→Option V
  | .int a => some (.int (-a))
  | _ => none
section
variable {C : Cx} {A : Around} {fm : Fm} {d : Nat}
theorem zg {i : Int} {k : Nat} {pos : Pos} : Snd C A fm VR (eval (.Constant (.int i) k pos) fm.env) (zd (.int i)) := by
  intro st v st' hf μ s R; injection hf; exact wpAny_Constant_int (Post.tok R (.int i _))
theorem qq {x : Str} {k : Nat} {pos : Pos} {l : List Nat} (hx : x = ⟨l.toArray⟩) : Snd C A fm VR (eval (.Constant (.str x) k pos) fm.env) (zd (.str l)) := by
  intro st v st' hf μ s R; injection hf; subst hx; exact fun _ _ _ => (Post.tok R (.str l _))
theorem vk {x : List UInt8} {k : Nat} {pos : Pos} : Snd C A fm VR (eval (.Constant (.bytes x) k pos) fm.env) (zd (.bytes x)) := by
  intro st v st' hf μ s R; injection hf; exact fun _ _ _ => (Post.tok R (.bytes x _))
theorem xz {b : Bool} {k : Nat} {pos : Pos} : Snd C A fm VR (eval (.Constant (.bool b) k pos) fm.env) (zd (.bool b)) := by
  intro st v st' hf μ s R; injection hf; exact wpAny_pure (Post.same R (.bool b))
theorem zd4 {k : Nat} {pos : Pos} : Snd C A fm VR (eval (.Constant .none k pos) fm.env) (zd .none) := by
  intro st v st' hf μ s R; injection hf; exact wpAny_pure (Post.same R .none)
theorem strOf (a : List Nat) (b : List Nat) : (⟨a.toArray⟩ : Str)++(⟨b.toArray⟩ : Str) = ⟨(a++b).toArray⟩ := by
  show (⟨a.toArray++b.toArray⟩ : Str) = _
  simp
set_option tactic.hygienic true in
theorem qx : Op2Ok C A fm (binaryOp .Add) addV := by
  intro a b v hv μ st s x y R ra rb
  apply gen3 (x := x) (y := y) (z := v); intro G hG
  unfold addV at hv
  split at hv
  · exact si hv (ra.inv fun _ => rb.inv fun _ => hG _ _ _ (PyProof.Rows.add_int (Post.tok R (.int _ _))))
  · rename_i a b
    split at hv
    · rename_i hz; refine si hv (ra.inv fun _ => rb.inv fun _ => hG _ _ _ ?_)
      refine SB.add (fun t' k => ?_) (by rw [sizeLine_eq]; simpa [szL,Str.length] using hz)
      rw [strOf]; exact Post.tok R (.str _ _)
    · exact ns hv
  · exact ns hv
set_option tactic.hygienic true in
theorem zex : Op2Ok C A fm (inplaceOp .Add) addV := by
  intro a b v hv μ st s x y R ra rb
  apply gen3 (x := x) (y := y) (z := v); intro G hG
  unfold addV at hv
  split at hv
  · exact si hv (ra.inv fun _ => rb.inv fun _ => hG _ _ _ (P.iadd_int (Post.tok R (.int _ _))))
  · rename_i a b
    split at hv
    · rename_i hz; refine si hv (ra.inv fun _ => rb.inv fun _ => hG _ _ _ ?_)
      refine SB.iadd (fun t' k => ?_) (by rw [sizeLine_eq]; simpa [szL,Str.length] using hz)
      rw [strOf]; exact Post.tok R (.str _ _)
    · exact ns hv
  · exact ns hv
theorem ks : Op2Ok C A fm (binaryOp .Sub) subV := by
  intro a b v hv μ st s x y R ra rb
  apply gen3 (x := x) (y := y) (z := v); intro G hG
  unfold subV at hv
  split at hv
  · exact si hv (ra.inv fun _ => rb.inv fun _ => hG _ _ _ (P.sub_int (Post.tok R (.int _ _))))
  · exact ns hv
set_option tactic.hygienic true in
theorem zam : Op2Ok C A fm (binaryOp .Mult) mulV := by
  intro a b v hv μ st s x y R ra rb
  apply gen3 (x := x) (y := y) (z := v); intro G hG
  unfold mulV at hv
  split at hv
  · rename_i a b
    split at hv
    · rename_i hz; refine si hv (ra.inv fun _ => rb.inv fun _ => hG _ _ _ ?_)
      exact P.mul_int (Post.tok R (.int _ _)) (IntMulOk.of_right (intBits_le_64 (by omega) (by omega)))
    · exact ns hv
  · rename_i c n
    split at hv
    · rename_i hz; refine si hv (ra.inv fun _ => rb.inv fun _ => hG _ _ _ ?_)
      have key : ∀ m : Nat,m≤3→MulOk (⟨[c].toArray⟩ : Str) (m : Int)∧Txt.mul (⟨[c].toArray⟩ : Str) (m : Int) = ⟨(List.replicate m c).toArray⟩ := by
        intro m hm
        have : m = 0∨m = 1∨m = 2∨m = 3 := by exact o157 hm
        rcases this with rfl | rfl | rfl | rfl
        · exact ⟨⟨by decide,fun h => absurd (by decide) h,fun h => absurd (by decide) h⟩,rfl⟩
        · exact ⟨⟨by decide,fun _ h => absurd h (by simp),fun _ h => absurd h (by simp)⟩,rfl⟩
        · exact ⟨⟨by decide,fun _ _ => by simp [Str.length],fun _ _ => by simp [Str.length]; rfl⟩,rfl⟩
        · exact ⟨⟨by decide,fun _ _ => by simp [Str.length],fun _ _ => by simp [Str.length]; rfl⟩,rfl⟩
      obtain ⟨m,rfl⟩ := Int.eq_ofNat_of_zero_le hz.1
      obtain ⟨k1,k2⟩ := key m (o400 hz)
      refine SB.mul k1 fun t' k => ?_
      rw [k2]
      exact Post.tok R (.str _ _)
    · exact ns hv
  · exact ns hv
set_option tactic.hygienic true in
theorem ud : Op2Ok C A fm (binaryOp .FloorDiv) divV := by
  intro a b v hv μ st s x y R ra rb
  apply gen3 (x := x) (y := y) (z := v); intro G hG
  unfold divV at hv
  split at hv
  · rename_i a b
    split at hv
    · rename_i hz; refine si hv (ra.inv fun _ => rb.inv fun _ => hG _ _ _ ?_)
      refine PyProof.Rows.floordiv_int (o401 hz) ?_ (.inl (PyProof.noPylong_small (by exact o402 hz)))
      rw [Int.fdiv_eq_ediv_of_nonneg _ (o403 hz)]
      exact Post.tok R (.int _ _)
    · exact ns hv
  · exact ns hv
set_option tactic.hygienic true in
theorem wz : Op2Ok C A fm (binaryOp .Mod) modV := by
  intro a b v hv μ st s x y R ra rb
  apply gen3 (x := x) (y := y) (z := v); intro G hG
  unfold modV at hv
  split at hv
  · rename_i a b
    split at hv
    · rename_i hz; refine si hv (ra.inv fun _ => rb.inv fun _ => hG _ _ _ ?_)
      refine PyProof.Rows.mod_int' (o401 hz) ?_
      rw [Int.fmod_eq_emod_of_nonneg _ (o403 hz)]
      exact Post.tok R (.int _ _)
    · exact ns hv
  · exact ns hv
set_option tactic.hygienic true in
theorem zdj : Op2Ok C A fm (binaryOp .LShift) shlV := by
  intro a b v hv μ st s x y R ra rb
  apply gen3 (x := x) (y := y) (z := v); intro G hG
  unfold shlV at hv
  split at hv
  · rename_i a b
    split at hv
    · rename_i hz; refine si hv (ra.inv fun _ => rb.inv fun _ => hG _ _ _ ?_)
      exact PyProof.Rows.lshift_int_small (o404 hz) (o405 hz) (by omega) (Post.tok R (.int _ _))
    · exact ns hv
  · exact ns hv
set_option tactic.hygienic true in
theorem zif : Op2Ok C A fm (binaryOp .RShift) shrV := by
  intro a b v hv μ st s x y R ra rb
  apply gen3 (x := x) (y := y) (z := v); intro G hG
  unfold shrV at hv
  split at hv
  · rename_i a b
    split at hv
    · rename_i hz; refine si hv (ra.inv fun _ => rb.inv fun _ => hG _ _ _ ?_)
      refine PyProof.Rows.rshift_int (o406 hz) ?_
      rw [Int.fdiv_eq_ediv_of_nonneg _ (Int.le_of_lt (Int.pow_pos (by decide)))]
      exact Post.tok R (.int _ _)
    · exact ns hv
  · exact ns hv
theorem zdx : Op2Ok C A fm (binaryOp .BitAnd) andV := by
  intro a b v hv μ st s x y R ra rb
  apply gen3 (x := x) (y := y) (z := v); intro G hG
  unfold andV at hv
  split at hv
  · exact si hv (ra.inv fun _ => rb.inv fun _ => hG _ _ _ (PyProof.Rows.and_int (Post.tok R (.int _ _))))
  · exact ns hv
theorem or_ok : Op2Ok C A fm (binaryOp .BitOr) orV := by
  intro a b v hv μ st s x y R ra rb
  apply gen3 (x := x) (y := y) (z := v); intro G hG
  unfold orV at hv
  split at hv
  · exact si hv (ra.inv fun _ => rb.inv fun _ => hG _ _ _ (PyProof.Rows.or_int (Post.tok R (.int _ _))))
  · exact ns hv
set_option tactic.hygienic true in
theorem pow_ok : Op2Ok C A fm (binaryOp .Pow) powV := by
  intro a b v hv μ st s x y R ra rb
  apply gen3 (x := x) (y := y) (z := v); intro G hG
  unfold powV at hv
  split at hv
  · rename_i a b
    split at hv
    · rename_i hz; refine si hv (ra.inv fun _ => rb.inv fun _ => hG _ _ _ ?_)
      refine PyProof.Rows.pow_int (o404 hz) ?_ (Post.tok R (.int _ _))
      have h1 : Builtin.Int.intBits a≤64 := intBits_le_64 (by omega) (by omega)
      have h2 : (Builtin.Int.intBits a : Int) * b≤64 * 64 := Int.mul_le_mul (o23 h1) (o407 hz) (o404 hz) (by omega)
      exact Int.le_trans h2 (by decide)
    · exact ns hv
  · exact ns hv
theorem zim : Op1Ok C A fm (unaryOp .USub) negV := by
  intro a v hv μ st s x R ra
  apply gen2 (x := x) (y := v); intro G hG
  unfold negV at hv
  split at hv
  · exact si hv (ra.inv fun _ => hG _ _ (P.neg_int (Post.tok R (.int _ _))))
  · exact ns hv
end
end Mine
end
section
namespace Mine
open PySem PyProof.Rows PySem.SeqAt
noncomputable def eqI : V→V→Option Bool
  | .int a,.int b => some (a == b)
  | .str a,.str b => some (a == b)
  | _,_ => none
noncomputable def eqIs : List V→List V→Option Bool
  | [],[] => some true
  | x :: xs,y :: ys => match eqI x y,eqIs xs ys with
    | some a,some b => some (a && b)
    | _,_ => none
  | _,_ => none
noncomputable def zc1 (g : List LObj) (i j : Nat) : Option Bool := match g[i]?,g[j]? with
    | some (.lst xs),some (.lst ys) => if xs.length = ys.length then eqIs xs ys else some false
    | _,_ => none
noncomputable def eqV (g : List LObj) : V→V→Option Bool
  | .int a,.int b => some (a == b)
  | .str a,.str b => some (a == b)
  | .bytes a,.bytes b => some (a == b)
  | .tup xs,.tup ys => if xs.isEmpty || ys.isEmpty then some (xs.length == ys.length) else none
  | .ref i,.ref j => zc1 g i j
  | _,_ => none
noncomputable def neV (g : List LObj) (a b : V) : Option Bool := (eqV g a b).map (!·)
noncomputable def lexB (n : Nat→Nat→Bool) : List Int→List Int→Bool
  | x :: xs,y :: ys => if x = y then lexB n xs ys else decide (x < y)
  | xs,ys => n xs.length ys.length
noncomputable def v8 : List V→Option (List Int)
  | [] => some []
  | .int i :: r => (v8 r).map (i :: ·)
  | _ => none
noncomputable def ltV (_ : List LObj) : V→V→Option Bool
  | .int a,.int b => some (decide (a < b))
  | .tup xs,.tup ys => match v8 xs,v8 ys with
    | some a,some b => some (lexB (fun m n => decide (m < n)) a b)
    | _,_ => none
  | _,_ => none
noncomputable def leV (_ : List LObj) : V→V→Option Bool
  | .int a,.int b => some (decide (a≤b))
  | .tup xs,.tup ys => match v8 xs,v8 ys with
    | some a,some b => some (lexB (fun m n => decide (m≤n)) a b)
    | _,_ => none
  | _,_ => none
noncomputable def gtV (_ : List LObj) : V→V→Option Bool
  | .int a,.int b => some (decide (b < a))
  | _,_ => none
noncomputable def geV (_ : List LObj) : V→V→Option Bool
  | .int a,.int b => some (decide (b≤a))
  | _,_ => none
noncomputable def inV (_ : List LObj) : V→V→Option Bool
  | .str [c],.str l => some (decide (c ∈ l))
  | _,_ => none
noncomputable def noneV : V→Option Bool
  | .none => some true
  | .bool _ => some false
  | .bytes _ => some false
  | _ => none
noncomputable def isV (_ : List LObj) : V→V→Option Bool
  | .typ a,.typ b => some (a == b)
  | a,.none => noneV a
  | _,_ => none
noncomputable def zf3 (g : List LObj) (a b : V) : Option Bool := (isV g a b).map (!·)
noncomputable def truV (g : List LObj) : V→Option Bool
  | .bool b => some b
  | .int i => some (i != 0)
  | .ref i => match g[i]? with
    | some (.lst xs) => if xs.length≤szL then some (!xs.isEmpty) else none
    | _ => none
  | _ => none
theorem VRs.isList {C : Cx} {fm : Fm} {μ : List Addr} {st : St} {s : Shared} (R : Rel C fm μ st s) {i : Nat} {xs : List V} {a : Addr} (hg : st.g[i]? = some (.lst xs)) (ha : μ[i]? = some a) :
    ∃ vals n,s.heap.get? a = some (lstO vals n)∧VRs s.heap μ xs vals.toList := by
  obtain ⟨ob,h1,h2⟩ := R.objs i a _ ha hg
  cases h2 with
  | lst h => exact ⟨_,_,h1,h⟩
section
variable {C : Cx} {A : Around} {fm : Fm} {d : Nat}
set_option tactic.hygienic true in
theorem eqI_at {h : Heap} {μ : List Addr} {a b : V} {x y : Value} {c : Bool} {s : Shared} (hc : eqI a b = some c) (ra : VR h μ a x) (rb : VR h μ b y) : EqAt A s x y c := by
  unfold eqI at hc
  split at hc
  · injection hc; injection ra; injection rb; exact EqAt.int_int _ _ _ _
  · rename_i p q
    injection hc; injection ra; injection rb
    have e : ((⟨p.toArray⟩ : Str) == ⟨q.toArray⟩) = (p == q) := by
      rw [Bool.eq_iff_iff]; simp
    rw [← e]; exact EqAt.str_str _ _ _ _
  · injection hc
set_option tactic.hygienic true in
theorem zit : ∀ {xs ys : List V} {c : Bool},eqIs xs ys = some c→xs.length = ys.length∧∃ e : Nat→Bool,(∀ j a b,xs[j]? = some a→ys[j]? = some b→eqI a b = some (e j))∧(List.range xs.length).all e = c
  | [],[],_,h => by injection h; exact ⟨rfl,fun _ => true,by simp,rfl⟩
  | x :: xs,y :: ys,c,h => by
    unfold eqIs at h
    split at h
    · rename_i a b h1 h2
      injection h
      obtain ⟨hl,e,he,ha⟩ := zit h2
      refine ⟨by simp [hl],fun j => match j with | 0 => a | j + 1 => e j,?_,?_⟩
      · intro j u v hu hv
        cases j with
        | zero => simp at hu hv; subst hu hv; exact h1
        | succ j => simp at hu hv; exact he j u v hu hv
      · rw [List.length_cons,List.range_succ_eq_map,List.all_cons,List.all_map]
        subst ha; rfl
    · injection h
  | [],_ :: _,_,h => by injection h
  | _ :: _,[],_,h => by injection h
set_option tactic.hygienic true in
theorem zlf {g : List LObj} {a b : V} {c : Bool} {G : V→V→Bool→Prop} (hc : eqV g a b = some c) (hi : ∀ a b,G (.int a) (.int b) (a == b)) (hs : ∀ a b,G (.str a) (.str b) (a == b)) (hb : ∀ a b,G (.bytes a) (.bytes b) (a == b))
    (ht : ∀ xs ys,(xs.isEmpty || ys.isEmpty) = true→G (.tup xs) (.tup ys) (xs.length == ys.length)) (hr : ∀ i j,zc1 g i j = some c→G (.ref i) (.ref j) c) : G a b c := by
  unfold eqV at hc
  split at hc
  · exact si hc (hi _ _)
  · exact si hc (hs _ _)
  · exact si hc (hb _ _)
  · split at hc
    · rename_i h; exact si hc (ht _ _ h)
    · exact ns hc
  · exact hr _ _ hc
  · exact ns hc
set_option tactic.hygienic true in
theorem zhy {g : List LObj} {i j : Nat} {c : Bool} (hc : zc1 g i j = some c) : ∃ xs ys,g[i]? = some (.lst xs)∧g[j]? = some (.lst ys)∧((xs.length = ys.length∧eqIs xs ys = some c)∨(xs.length≠ys.length∧c = false)) := by
  unfold zc1 at hc
  split at hc
  · rename_i h1 h2
    split at hc
    · rename_i h; exact ⟨_,_,h1,h2,.inl ⟨h,hc⟩⟩
    · rename_i h; exact ⟨_,_,h1,h2,.inr ⟨h,(Option.some.inj hc).symm⟩⟩
  · exact ns hc
theorem noCell {xs ys : List V} {vs ws : Array Value} (l1 : xs.length = vs.size) (l2 : ys.length = ws.size) (h : (xs.isEmpty || ys.isEmpty) = true) {j : Nat} (q1 : j < vs.size) (q2 : j < ws.size) : False := by
  rcases Bool.or_eq_true_iff.mp h with h | h
  · rw [List.isEmpty_iff.mp h] at l1; rw [← l1] at q1; exact Nat.not_lt_zero _ q1
  · rw [List.isEmpty_iff.mp h] at l2; rw [← l2] at q2; exact Nat.not_lt_zero _ q2
theorem tupLen {xs ys : List V} {vs ws : Array Value} (l1 : xs.length = vs.size) (l2 : ys.length = ws.size) : ((List.range (min vs.size ws.size)).all (fun _ => true) && vs.size == ws.size) = (xs.length == ys.length) := by
  rw [l1,l2,List.all_eq_true.mpr (fun _ _ => rfl)]; rfl
noncomputable def Both (C : Cx) (A : Around) (s : Shared) (x y : Value) (c : Bool) : Prop :=
  (∀ Q : Value→Shared→Prop,Q (.bool c) s→wpAny C.M A (compareOp .Eq x y) Q NoE s)∧(∀ Q : Value→Shared→Prop,Q (.bool !c) s→wpAny C.M A (compareOp .NotEq x y) Q NoE s)
theorem zlm (hA : A.units < cLine) {a b : V} {c : Bool} {μ : List Addr} {st : St} {s : Shared} {x y : Value} (hc : eqV st.g a b = some c) (R : Rel C fm μ st s) (ra : VR s.heap μ a x) (rb : VR s.heap μ b y) : Both C A s x y c := by
  refine zlf (G := fun a b c => VR s.heap μ a x→VR s.heap μ b y→Both C A s x y c) hc (fun a b ra rb => ?_) (fun a b ra rb => ?_) (fun a b ra rb => ?_) (fun xs ys h ra rb => ?_) (fun i j hc ra rb => ?_) ra rb
  · exact ra.inv fun _ => rb.inv fun _ => ⟨fun _ h => P.eq_int h,fun _ h => P.ne_int h⟩
  · exact ra.inv fun _ => rb.inv fun _ => ⟨fun _ h => P.eq_str h,fun _ h => P.ne_str h⟩
  · exact ra.inv fun _ => rb.inv fun _ => ⟨fun _ h => PySem.W.eq_bytes h,fun _ h => PySem.W.ne_bytes h⟩
  · exact ra.inv fun _ _ _ h1 l1 _ => rb.inv fun _ _ _ h2 l2 _ => ⟨fun _ q => eq_tupleAt (e := fun _ => true) ⟨_,h1,rfl,_,rfl⟩ ⟨_,h2,rfl,_,rfl⟩ hA (fun j q1 q2 => (noCell l1 l2 h q1 q2).elim) (by rw [tupLen l1 l2]; exact q),
      fun _ q => RcNeAt.tuples (e := fun _ => true) ⟨_,h1,rfl,_,rfl⟩ ⟨_,h2,rfl,_,rfl⟩ hA (fun j q1 q2 => (noCell l1 l2 h q1 q2).elim) _ _ _ _ (by rw [tupLen l1 l2]; exact q)⟩
  · refine ra.inv fun _ hi => rb.inv fun _ hj => ?_
    obtain ⟨xs,ys,h1,h2,hc⟩ := zhy hc
    obtain ⟨vs,n,e1,r1⟩ := VRs.isList R h1 hi
    obtain ⟨ws,m,e2,r2⟩ := VRs.isList R h2 hj
    have z1 : xs.length = vs.size := r1.1.trans Array.length_toList
    have z2 : ys.length = ws.size := r2.1.trans Array.length_toList
    rcases hc with ⟨hl,hc⟩ | ⟨hl,rfl⟩
    · obtain ⟨_,e,he,ha⟩ := zit hc
      have key : ∀ j (h1 : j < vs.size) (h2 : j < ws.size),EqAt A.in1 s vs[j] ws[j] (e j) := fun j q1 q2 =>
        eqI_at (he j _ _ (List.getElem?_eq_getElem (z1 ▸ q1)) (List.getElem?_eq_getElem (z2 ▸ q2))) (r1.2 j _ _ (List.getElem?_eq_getElem (z1 ▸ q1)) (by simp)) (r2.2 j _ _ (List.getElem?_eq_getElem (z2 ▸ q2)) (by simp))
      have hs : vs.size = ws.size := z1.symm.trans (hl.trans z2)
      rw [← ha,z1]
      exact ⟨fun _ q => eq_listAt (e := e) ⟨_,e1,rfl,_,rfl⟩ ⟨_,e2,rfl,_,rfl⟩ hs hA key q,fun _ q => RcNeAt.lists (e := e) ⟨_,e1,rfl,_,rfl⟩ ⟨_,e2,rfl,_,rfl⟩ hs hA key _ _ _ _ q⟩
    · have hs : (vs.size != ws.size) = true := bne_iff_ne.mpr fun q => hl (z1.trans (q.trans z2.symm))
      exact ⟨fun _ q => eq_list_lengthsAt ⟨_,e1,rfl,_,rfl⟩ ⟨_,e2,rfl,_,rfl⟩ hs hA q,fun _ q => RcNeAt.lists_lengths ⟨_,e1,rfl,_,rfl⟩ ⟨_,e2,rfl,_,rfl⟩ hs hA _ _ _ _ q⟩
theorem vl (hA : A.units < cLine) : zaf C A fm .Eq eqV :=
  fun _ _ _ _ _ _ _ _ hc R ra rb => (zlm hA hc R ra rb).1 _ ⟨rfl,Post.same R trivial⟩
theorem xn (hA : A.units < cLine) : zaf C A fm .NotEq neV := by
  intro a b c μ st s x y hc R ra rb
  obtain ⟨c',h1,h2⟩ := Option.map_eq_some_iff.mp hc
  exact (zlm hA h1 R ra rb).2 _ ⟨by rw [h2],Post.same R trivial⟩
theorem gt_ok : zaf C A fm .Gt gtV := by
  intro a b c μ st s x y hc R ra rb
  apply gen3 (x := x) (y := y) (z := c); intro G hG
  unfold gtV at hc
  split at hc
  · exact si hc (ra.inv fun _ => rb.inv fun _ => hG _ _ _ (P.gt_int ⟨rfl,Post.same R trivial⟩))
  · exact ns hc
theorem ge_ok : zaf C A fm .GtE geV := by
  intro a b c μ st s x y hc R ra rb
  apply gen3 (x := x) (y := y) (z := c); intro G hG
  unfold geV at hc
  split at hc
  · exact si hc (ra.inv fun _ => rb.inv fun _ => hG _ _ _ (P.ge_int ⟨rfl,Post.same R trivial⟩))
  · exact ns hc
theorem in_ok : zaf C A fm .In inV := by
  intro a b c μ st s x y hc R ra rb
  apply gen3 (x := x) (y := y) (z := c); intro G hG
  unfold inV at hc
  split at hc
  · refine si hc (ra.inv fun _ => rb.inv fun _ => hG _ _ _ ?_)
    refine P.in_str ⟨?_,Post.same R trivial⟩
    rw [StrLaws.found_one]
  · exact ns hc
noncomputable def BothIs (C : Cx) (A : Around) (s : Shared) (x y : Value) (c : Bool) : Prop :=
  (∀ Q : Value→Shared→Prop,Q (.bool c) s→wpAny C.M A (compareOp .Is x y) Q NoE s)∧(∀ Q : Value→Shared→Prop,Q (.bool !c) s→wpAny C.M A (compareOp .IsNot x y) Q NoE s)
theorem typEq (p q : String) : (Value.type p == Value.type q) = (p == q) := by
  rw [Bool.eq_iff_iff]; simp
theorem zgg {a b : V} {c : Bool} {μ : List Addr} {g : List LObj} {s : Shared} {x y : Value} (hc : isV g a b = some c) (ra : VR s.heap μ a x) (rb : VR s.heap μ b y) : BothIs C A s x y c := by
  unfold isV at hc
  split at hc
  · exact si hc (ra.inv fun _ => rb.inv fun _ => ⟨fun _ q => wpAny_is_plain rfl (typEq .. ▸ q),fun _ q => wpAny_isNot_plain rfl (by rw [← typEq] at q; exact q)⟩)
  · refine rb.inv fun _ => ?_
    unfold noneV at hc
    split at hc
    · exact si hc (ra.inv fun _ => ⟨fun _ q => wpAny_is_plain rfl q,fun _ q => wpAny_isNot_plain rfl q⟩)
    · exact si hc (ra.inv fun _ => ⟨fun _ q => wpAny_is_plain rfl q,fun _ q => wpAny_isNot_plain rfl q⟩)
    · exact si hc (ra.inv fun _ => ⟨fun _ q => wpAny_is_plain rfl q,fun _ q => wpAny_isNot_plain rfl q⟩)
    · exact ns hc
  · exact ns hc
theorem wq : zaf C A fm .Is isV :=
  fun _ _ _ _ _ _ _ _ hc R ra rb => (zgg hc ra rb).1 _ ⟨rfl,Post.same R trivial⟩
theorem ziq : zaf C A fm .IsNot zf3 := by
  intro a b c μ st s x y hc R ra rb
  obtain ⟨c',h1,h2⟩ := Option.map_eq_some_iff.mp hc
  exact (zgg h1 ra rb).2 _ ⟨by rw [h2],Post.same R trivial⟩
set_option tactic.hygienic true in
theorem xe : TruOk C A fm truV := by
  intro a c μ st s x hc R ra
  apply gen2 (x := x) (y := c); intro G hG
  unfold truV at hc
  split at hc
  · exact si hc (ra.inv fun _ => hG _ _ (wpAny_truthy_bool ⟨rfl,Post.same R trivial⟩))
  · exact si hc (ra.inv fun _ => hG _ _ (P.truthy_int ⟨rfl,Post.same R trivial⟩))
  · refine ra.inv fun _ hi => ?_
    split at hc
    · rename_i xs h1
      split at hc
      · rename_i hz
        refine si hc (hG _ _ ?_)
        obtain ⟨vs,n,e1,r1⟩ := VRs.isList R h1 hi
        have z1 := r1.1
        simp only [Array.length_toList] at z1
        refine wpAny_truthy_list ⟨_,e1,rfl,_,rfl⟩ (by unfold szL at hz; omega) ⟨?_,Post.tok R trivial⟩
        congr 1
        rw [Bool.eq_iff_iff]; simp [List.isEmpty_iff,← List.length_eq_zero_iff,z1]
      · exact ns hc
    · exact ns hc
  · exact ns hc
end
end Mine
end
section
namespace Mine
open PySem PyProof.Rows PySem.SeqAt
open AutoSeq1 (wpAny_loadPart')
open MeetsSeq MeetsSeq2 MeetsSeq3 SeqRoads2
noncomputable def IntsAt (items : Array Value) (xs : List Int) : Prop := items.size = xs.length∧∀ (i : Nat) v,items[i]? = some v→∃ t n,xs[i]? = some n∧v = .int n t
theorem IntsAt.of {h : Heap} {μ : List Addr} : ∀ {vs : List V} {ns : List Int} {items : List Value},v8 vs = some ns→VRs h μ vs items→IntsAt items.toArray ns
  | [],ns,items,e,r => by
    injection e
    have := r.1
    simp at this;
    have : items = [] := List.length_eq_zero_iff.mp this.symm
    subst this; exact ⟨rfl,fun i v h => by simp at h⟩
  | .int i :: vs,ns,items,e,r => by
    unfold v8 at e
    cases q : v8 vs with
    | none => rw [q] at e; injection e
    | some ms =>
      rw [q] at e; injection e
      cases items with
      | nil => have := r.1; simp at this
      | cons x items =>
        obtain ⟨r1,r2⟩ := r.uncons
        obtain ⟨z1,z2⟩ := IntsAt.of q r2
        refine ⟨by simpa using z1,fun j v hv => ?_⟩
        cases j with
        | zero => simp at hv; subst hv; injection r1; exact ⟨_,i,rfl,rfl⟩
        | succ j => simp at hv; exact z2 j v (by simpa using hv)
theorem zfz {n : Nat→Nat→Bool} {x y : Int} {xs ys : List Int} : lexB n (x :: xs) (y :: ys) = if x = y then lexB n xs ys else decide (x < y) := rfl
theorem zio {n : Nat→Nat→Bool} : ∀ {xs ys : List Int},(xs = []∨ys = [])→lexB n xs ys = n xs.length ys.length
  | [],ys,_ => by unfold lexB; rfl
  | x :: xs,[],_ => by unfold lexB; rfl
  | x :: xs,y :: ys,h => by rcases h with h | h <;> cases h
theorem zj9 {items items2 : Array Value} {xs ys : List Int} (hx : IntsAt items xs) (hy : IntsAt items2 ys) {i : Nat} {y x : Value} {rest : List (Value × Value)} (hz : (y,x) :: rest = (items.toList.zip items2.toList).drop i) :
    ∃ t1 a t2 c,y = .int a t1∧x = .int c t2∧xs.drop i = a :: xs.drop (i + 1)∧ys.drop i = c :: ys.drop (i + 1)∧rest = (items.toList.zip items2.toList).drop (i + 1)∧i + 1≤min items.size items2.size := by
  have hZ : (items.toList.zip items2.toList).length = min items.size items2.size := by simp
  have hlt : i < (items.toList.zip items2.toList).length := by
    rcases Nat.lt_or_ge i (items.toList.zip items2.toList).length with h' | h'
    · exact h'
    · rw [List.drop_of_length_le h'] at hz; injection hz
  have hm : i < min items.size items2.size := hZ ▸ hlt
  have h1 : i < items.size := Nat.lt_of_lt_of_le hm (Nat.min_le_left _ _)
  have h2 : i < items2.size := Nat.lt_of_lt_of_le hm (Nat.min_le_right _ _)
  rw [List.drop_eq_getElem_cons hlt] at hz
  injection hz with hyx hrest
  have hye : y = items[i] := by have := congrArg Prod.fst hyx; simpa using this
  have hxe : x = items2[i] := by have := congrArg Prod.snd hyx; simpa using this
  obtain ⟨t1,a,ha,e1⟩ := hx.2 i y (by rw [hye]; simp [h1])
  obtain ⟨t2,c,hc,e2⟩ := hy.2 i x (by rw [hxe]; simp [h2])
  have dd : ∀ {l : List Int} {b : Int},l[i]? = some b→l.drop i = b :: l.drop (i + 1) := fun h => by obtain ⟨q,rfl⟩ := List.getElem?_eq_some_iff.mp h; exact List.drop_eq_getElem_cons q
  exact ⟨t1,a,t2,c,e1,e2,dd ha,dd hc,hrest,hm⟩
theorem end_at {items items2 : Array Value} {xs ys : List Int} (hx : IntsAt items xs) (hy : IntsAt items2 ys) {i : Nat} (hile : i≤min items.size items2.size) (hz : [] = (items.toList.zip items2.toList).drop i) :
    xs.drop i = []∨ys.drop i = [] := by
  have hge : min items.size items2.size≤i := by
    have := List.drop_eq_nil_iff.mp hz.symm
    simpa using this
  rw [List.drop_eq_nil_iff,List.drop_eq_nil_iff]; have := hx.1; have := hy.1; exact o415 hile hge (by assumption) this
theorem zdb (l b : Addr) (items items2 : Array Value) (n n2 : Nat) (dd dd2 : Option Addr) (sl sl2 : Array (Option Value)) (xs ys : List Int) (hx : IntsAt items xs) (hy : IntsAt items2 ys) :
    Meets (Builtin.«tuple.__lt__» ⟨[.ref l,.ref b],[]⟩)
      (fun _ R s => s.heap.get? l = some { cls := .type "tuple",dict := dd,data := .seq items n,slots := sl }∧s.heap.get? b = some { cls := .type "tuple",dict := dd2,data := .seq items2 n2,slots := sl2 } ∧
        R (.ok (.ret (.bool (lexB (fun m n => decide (m < n)) xs ys)))) s) :=
  .of_wp fun prog w A R s h => by
    obtain ⟨hp,g,d,tk,os⟩ := s; obtain ⟨hl,hb,h⟩ := h
    have f2 := AutoSeq1.sub_tuple_tuple
    have hZ : (items.toList.zip items2.toList).length = min items.size items2.size := by simp
    wp_walk using wpAny_loadPart' hl,wpAny_loadPart' hb,wpAny_forIn_list _ (fun rest b s' => b.1 = none∧s' = ⟨hp,g,d,tk,os⟩∧∃ i,i≤min items.size items2.size∧rest = (items.toList.zip items2.toList).drop i ∧
      lexB (fun m n => decide (m < n)) (xs.drop i) (ys.drop i) = lexB (fun m n => decide (m < n)) xs ys) _
    case turn =>
      intro p rest b s' hx0
      apply gen2 (x := p) (y := s'); intro G hG
      obtain ⟨hb',rfl,i,hile,hz,hR⟩ := hx0
      obtain ⟨y,x⟩ := p
      obtain ⟨t1,a,t2,c,rfl,rfl,d1,d2,hrest,hi⟩ := zj9 hx hy hz
      refine hG _ _ ?_
      rw [d1,d2,zfz] at hR
      refine wpAny_bind (EqAt.int_int a t1 c t2 prog w _ _ ?_)
      generalize hac : (a == c) = e at *
      cases e with
      | true =>
        rw [if_pos (eq_of_beq hac)] at hR
        wp_walk
        exact ⟨rfl,rfl,i + 1,hi,hrest,hR⟩
      | false =>
        replace hac := ne_of_beq_false hac
        rw [if_neg hac] at hR
        show wpAny (model prog w) A.in1 (rule "tuple.compare.by-the-first-pair-that-differs" >>= fun _ => richCompare CmpOp.Lt (Value.int a t1) (Value.int c t2) >>= fun r => ret r >>= fun r => pure (ForInStep.done (some r,()))) _ _ _
        refine wpAny_bind (wpAny_rule (wpAny_bind (P.lt_int ?_)))
        refine wpAny_bind (wpAny_pure (wpAny_pure ?_))
        refine wpAny_pure ⟨_,rfl,?_⟩
        rw [hR]
        exact h
    case fin =>
      rintro ⟨b1,b2⟩ s' hx0; obtain ⟨hb',rfl,i,hile,hz,hR⟩ := hx0
      simp only at hb'
      subst hb'
      have hend := end_at hx hy hile hz
      rw [zio hend] at hR
      wp_walk
      refine ⟨_,rfl,?_⟩
      rw [← hR] at h
      have : Builtin.Tuple.tupleCompareSizes CmpOp.Lt items.size items2.size = .bool (decide ((xs.drop i).length < (ys.drop i).length)) := by
        show Value.bool _ = _
        congr 1
        simp only [List.length_drop]
        rw [decide_eq_decide]
        have := hx.1; have := hy.1; omega
      rw [this]
      exact h
    case h =>
      exact ⟨rfl,rfl,0,by exact o416 hZ,rfl,by simp⟩
theorem zi0 (l b : Addr) (items items2 : Array Value) (n n2 : Nat) (dd dd2 : Option Addr) (sl sl2 : Array (Option Value)) (xs ys : List Int) (hx : IntsAt items xs) (hy : IntsAt items2 ys) :
    Meets (Builtin.«tuple.__le__» ⟨[.ref l,.ref b],[]⟩)
      (fun _ R s => s.heap.get? l = some { cls := .type "tuple",dict := dd,data := .seq items n,slots := sl }∧s.heap.get? b = some { cls := .type "tuple",dict := dd2,data := .seq items2 n2,slots := sl2 } ∧
        R (.ok (.ret (.bool (lexB (fun m n => decide (m≤n)) xs ys)))) s) :=
  .of_wp fun prog w A R s h => by
    obtain ⟨hp,g,d,tk,os⟩ := s; obtain ⟨hl,hb,h⟩ := h
    have f2 := AutoSeq1.sub_tuple_tuple
    have hZ : (items.toList.zip items2.toList).length = min items.size items2.size := by simp
    wp_walk using wpAny_loadPart' hl,wpAny_loadPart' hb,wpAny_forIn_list _ (fun rest b s' => b.1 = none∧s' = ⟨hp,g,d,tk,os⟩∧∃ i,i≤min items.size items2.size∧rest = (items.toList.zip items2.toList).drop i ∧
      lexB (fun m n => decide (m≤n)) (xs.drop i) (ys.drop i) = lexB (fun m n => decide (m≤n)) xs ys) _
    case turn =>
      intro p rest b s' hx0
      apply gen2 (x := p) (y := s'); intro G hG
      obtain ⟨hb',rfl,i,hile,hz,hR⟩ := hx0
      obtain ⟨y,x⟩ := p
      obtain ⟨t1,a,t2,c,rfl,rfl,d1,d2,hrest,hi⟩ := zj9 hx hy hz
      refine hG _ _ ?_
      rw [d1,d2,zfz] at hR
      refine wpAny_bind (EqAt.int_int a t1 c t2 prog w _ _ ?_)
      generalize hac : (a == c) = e at *
      cases e with
      | true =>
        rw [if_pos (eq_of_beq hac)] at hR
        wp_walk
        exact ⟨rfl,rfl,i + 1,hi,hrest,hR⟩
      | false =>
        replace hac := ne_of_beq_false hac
        rw [if_neg hac] at hR
        show wpAny (model prog w) A.in1 (rule "tuple.compare.by-the-first-pair-that-differs" >>= fun _ => richCompare CmpOp.LtE (Value.int a t1) (Value.int c t2) >>= fun r => ret r >>= fun r => pure (ForInStep.done (some r,()))) _ _ _
        refine wpAny_bind (wpAny_rule (wpAny_bind (P.le_int ?_)))
        refine wpAny_bind (wpAny_pure (wpAny_pure ?_))
        refine wpAny_pure ⟨_,rfl,?_⟩
        rw [← hR] at h
        rw [show decide (a≤c) = decide (a < c) by rw [decide_eq_decide]; omega]
        exact h
    case fin =>
      rintro ⟨b1,b2⟩ s' hx0; obtain ⟨hb',rfl,i,hile,hz,hR⟩ := hx0
      simp only at hb'
      subst hb'
      have hend := end_at hx hy hile hz
      rw [zio hend] at hR
      wp_walk
      refine ⟨_,rfl,?_⟩
      rw [← hR] at h
      have : Builtin.Tuple.tupleCompareSizes CmpOp.LtE items.size items2.size = .bool (decide ((xs.drop i).length≤(ys.drop i).length)) := by
        show Value.bool _ = _
        congr 1
        simp only [List.length_drop]
        rw [decide_eq_decide]
        have := hx.1; have := hy.1; omega
      rw [this]
      exact h
    case h =>
      exact ⟨rfl,rfl,0,by exact o416 hZ,rfl,by simp⟩
section
variable {C : Cx} {A : Around} {fm : Fm}
theorem VR.tupItems {h : Heap} {μ : List Addr} {vs : List V} {x : Value} (r : VR h μ (.tup vs) x) : ∃ a vals n,x = .ref a∧h.get? a = some (tupO vals n)∧VRs h μ vs vals.toList := by
  cases r with
  | tup h1 h2 h3 => exact ⟨_,_,_,rfl,h1,by simpa using h2,fun i v x e e' => h3 i v x e (by simpa using e')⟩
set_option tactic.hygienic true in
theorem zhk (hA : A.units < cLine) : zaf C A fm .Lt ltV := by
  intro a b c μ st s x y hc R ra rb
  apply gen3 (x := x) (y := y) (z := c); intro G hG
  unfold ltV at hc
  split at hc
  · exact si hc (ra.inv fun _ => rb.inv fun _ => hG _ _ _ (P.lt_int ⟨rfl,Post.same R trivial⟩))
  · split at hc
    · rename_i xs ys ms ns h1 h2
      refine si hc ?_
      obtain ⟨a1,v1,n1,rfl,g1,r1⟩ := ra.tupItems
      obtain ⟨a2,v2,n2,rfl,g2,r2⟩ := rb.tupItems
      have z1 := IntsAt.of h1 r1
      have z2 := IntsAt.of h2 r2
      simp only [Array.toArray_toList] at z1 z2
      refine hG _ _ _ ?_
      exact richCompare_meets_room (op := .Lt) ⟨_,g1,rfl⟩ ⟨_,g2,rfl⟩ F.slot_tuple_lt F.entry_tuple_lt (F.args_tuple_lt_2 _ _) (zdb a1 a2 v1 v2 n1 n2 none none _ _ ms ns z1 z2)
        ⟨g1,g2,(fun x => nomatch x),rfl,Post.same R trivial⟩ hA
    · exact ns hc
  · exact ns hc
set_option tactic.hygienic true in
theorem uv (hA : A.units < cLine) : zaf C A fm .LtE leV := by
  intro a b c μ st s x y hc R ra rb
  apply gen3 (x := x) (y := y) (z := c); intro G hG
  unfold leV at hc
  split at hc
  · exact si hc (ra.inv fun _ => rb.inv fun _ => hG _ _ _ (P.le_int ⟨rfl,Post.same R trivial⟩))
  · split at hc
    · rename_i xs ys ms ns h1 h2
      refine si hc ?_
      obtain ⟨a1,v1,n1,rfl,g1,r1⟩ := ra.tupItems
      obtain ⟨a2,v2,n2,rfl,g2,r2⟩ := rb.tupItems
      have z1 := IntsAt.of h1 r1
      have z2 := IntsAt.of h2 r2
      simp only [Array.toArray_toList] at z1 z2
      refine hG _ _ _ ?_
      exact richCompare_meets_room (op := .LtE) ⟨_,g1,rfl⟩ ⟨_,g2,rfl⟩ F.slot_tuple_le F.entry_tuple_le (F.args_tuple_le_2 _ _) (zi0 a1 a2 v1 v2 n1 n2 none none _ _ ms ns z1 z2)
        ⟨g1,g2,(fun x => nomatch x),rfl,Post.same R trivial⟩ hA
    · exact ns hc
  · exact ns hc
end
end Mine
end
section
namespace Mine
open PySem PyProof.Rows
section
variable {C : Cx} {A : Around} {fm : Fm} {d : Nat} {μ : List Addr} {st : St} {s : Shared}
theorem slotOk.mono {h h' : Heap} {μ μ' : List Addr} {m : Str→Option Value} {x : Str × Option Addr} {v : Option V} (H : slotOk h μ m x v) (hk : ∀ b o,h.get? b = some o→Imm o→h'.get? b = some o)
    (hμ : ∀ (i : Nat) a,μ[i]? = some a→μ'[i]? = some a) (hc : ∀ c,x.2 = some c→∀ w,h.IsCell c w→h'.IsCell c w) : slotOk h' μ' m x v := by
  obtain ⟨z,q⟩ := x
  unfold slotOk at H ⊢
  cases q with
  | none => cases v with
    | none => trivial
    | some w => obtain ⟨val,e1,e2⟩ := H; exact ⟨val,e1,e2.mono hk hμ⟩
  | some c => cases v with
    | none => obtain ⟨w,e⟩ := H; exact ⟨w,hc c rfl w e⟩
    | some w => obtain ⟨val,e1,e2⟩ := H; exact ⟨val,hc c rfl _ e1,e2.mono hk hμ⟩
theorem Rel.ext (R : Rel C fm μ st s) {h' : Heap} {tk : Nat} (hk : ∀ b o,s.heap.get? b = some o→h'.get? b = some o) : Rel C fm μ st { s with heap := h',toks := tk } := by
  have hi : ∀ b o,s.heap.get? b = some o→Imm o→h'.get? b = some o := fun b o e _ => hk b o e
  refine ⟨fun b o e => hk b o (R.base b o e),?_,R.slen,R.loc0,R.cell0,R.len,fun i a o ha ho => ?_,R.nd,R.mu0,R.apart,R.pins⟩
  · obtain ⟨m,hn,ho⟩ := R.ns
    exact ⟨m,hn.keeps hk,fun i x v hx hv => (ho i x v hx hv).mono hi (fun _ _ e => e) fun c _ w q => q.keeps hk⟩
  · obtain ⟨ob,e1,e2⟩ := R.objs i a o ha ho
    exact ⟨ob,hk a ob e1,e2.mono hi fun _ _ e => e⟩
theorem Step.ext' {h h' : Heap} (hk : ∀ b o,h.get? b = some o→h'.get? b = some o) : Step fm μ μ h h' := ⟨fun b o e _ _ => hk b o e,fun b o e => ⟨o,hk b o e⟩,[],by simp,by simp⟩
theorem Rel.fresh (R : Rel C fm μ st s) {a : Addr} (ha : s.heap.get? a = none) : C.H0.get? a = none := by
  cases e : C.H0.get? a with
  | none => rfl
  | some o => rw [R.base a o e] at ha; cases ha
theorem qz (h : Heap) : h.get? h.objs.size = none := Heap.get?_none_of_le (Nat.le_refl _)
theorem Rel.newObj (R : Rel C fm μ st s) {h' : Heap} {tk : Nat} {a : Addr} {o : LObj} {ob : Obj} (hk : ∀ b o,s.heap.get? b = some o→h'.get? b = some o) (ha : s.heap.get? a = none) (hob : h'.get? a = some ob) (ho : OR s.heap μ o ob) :
    Rel C fm (μ++[a]) { st with g := st.g++[o] } { s with heap := h',toks := tk }∧Step fm μ (μ++[a]) s.heap h' := by
  have hi : ∀ b o,s.heap.get? b = some o→Imm o→h'.get? b = some o := fun b o e _ => hk b o e
  have hμ : ∀ (i : Nat) c,μ[i]? = some c→(μ++[a])[i]? = some c := fun i c e => by rw [List.getElem?_append_left (List.getElem?_eq_some_iff.mp e).1]; exact e
  have hnot : a ∉ μ := fun hm => by obtain ⟨_,_,e,_⟩ := R.muLive hm; exact off ha e
  refine ⟨⟨fun b o e => hk b o (R.base b o e),?_,R.slen,R.loc0,R.cell0,by simp [R.len],fun i c o' hc ho' => ?_,?_,?_,?_,fun p hp => hμ _ _ (R.pins p hp)⟩,⟨fun b o e _ _ => hk b o e,fun b o e => ⟨o,hk b o e⟩,[a],rfl,by simp [ha]⟩⟩
  · obtain ⟨m,hn,ho⟩ := R.ns
    exact ⟨m,hn.keeps hk,fun i x v hx hv => (ho i x v hx hv).mono hi hμ fun c _ w q => q.keeps hk⟩
  · simp only at ho'
    by_cases hlt : i < μ.length
    · rw [List.getElem?_append_left hlt] at hc
      rw [List.getElem?_append_left (R.len ▸ hlt)] at ho'
      obtain ⟨ob,e1,e2⟩ := R.objs i c o' hc ho'
      exact ⟨ob,hk c ob e1,e2.mono hi hμ⟩
    · have : i = μ.length := by
        have := (List.getElem?_eq_some_iff.mp hc).1
        simp at this; exact o417 hlt this
      subst this
      rw [List.getElem?_append_right (Nat.le_refl _)] at hc
      rw [R.len,List.getElem?_append_right (Nat.le_refl _)] at ho'
      simp at hc ho'
      subst hc ho'
      exact ⟨ob,hob,ho.mono hi hμ⟩
  · rw [List.nodup_append]
    refine ⟨R.nd,by simp,?_⟩
    intro x hx y hy e
    simp at hy; subst hy e; exact hnot hx
  · intro x hx
    rcases List.mem_append.mp hx with hx | hx
    · exact R.mu0 x hx
    · simp at hx; subst hx; exact R.fresh ha
  · intro x hx
    rcases List.mem_append.mp hx with hx | hx
    · exact R.apart x hx
    · simp at hx; subst hx
      refine ⟨fun q => ?_,fun y c hc q => ?_⟩
      · obtain ⟨m,⟨o',es,ep,ho',_⟩,_⟩ := R.ns
        rw [← q,ha] at ho'; injection ho'
      · obtain ⟨w,o',ho',_⟩ := R.cellLive hc
        rw [← q,ha] at ho'; injection ho'
theorem Rel.setObj (R : Rel C fm μ st s) (K : FmOk fm) {h' : Heap} {tk : Nat} {i : Nat} {a : Addr} {o : LObj} {ob : Obj} (hi : μ[i]? = some a) (hs : Heap.SameBut a s.heap h') (hob : h'.get? a = some ob) (ho : OR s.heap μ o ob) :
    Rel C fm μ { st with g := st.g.set i o } { s with heap := h',toks := tk }∧Step fm μ μ s.heap h' := by
  have hm : a ∈ μ := List.mem_of_getElem? hi
  have S : Step fm μ μ s.heap h' := ⟨fun b o e _ h2 => (hs.2 b (fun q => h2 (q ▸ hm))).trans e,fun b o e => by
    by_cases q : b = a
    · subst q; exact ⟨ob,hob⟩
    · exact ⟨o,(hs.2 b q).trans e⟩,[],by simp,by simp⟩
  have hk := R.keepImm K S
  refine ⟨⟨fun b o e => ?_,?_,R.slen,R.loc0,R.cell0,by simp [R.len],fun j c o' hc ho' => ?_,R.nd,R.mu0,R.apart,R.pins⟩,S⟩
  · exact (hs.2 b (gne (R.mu0 a hm) e)).trans (R.base b o e)
  · obtain ⟨m,hn,ho⟩ := R.ns
    refine ⟨m,hn.sameBut hs (Ne.symm (R.muNeL hm)),fun j x v hx hv => (ho j x v hx hv).mono hk (fun _ _ e => e) fun c hc w q => q.sameBut hs ?_⟩
    obtain ⟨z,q⟩ := x
    simp only at hc; subst hc
    exact Ne.symm (R.muNeC hm (List.mem_of_getElem? hx))
  · simp only at ho'
    by_cases q : j = i
    · subst q
      rw [hi] at hc; injection hc
      rw [List.getElem?_set_self (R.len ▸ (List.getElem?_eq_some_iff.mp hi).1)] at ho'; injection ho'
      exact ⟨ob,hob,ho.mono hk fun _ _ e => e⟩
    · rw [List.getElem?_set_ne (Ne.symm q)] at ho'
      obtain ⟨ob',e1,e2⟩ := R.objs j c o' hc ho'
      refine ⟨ob',(hs.2 c fun e => ?_).trans e1,e2.mono hk fun _ _ e => e⟩
      subst e
      obtain ⟨l1,e1⟩ := List.getElem?_eq_some_iff.mp hc
      obtain ⟨l2,e2⟩ := List.getElem?_eq_some_iff.mp hi
      have hp := List.pairwise_iff_getElem.mp R.nd
      rcases Nat.lt_trichotomy i j with z | z | z
      · exact absurd (e2.trans e1.symm) (hp i j l2 l1 z)
      · exact q z.symm
      · exact absurd (e1.trans e2.symm) (hp j i l1 l2 z)
end
noncomputable def nilL : LM (List V) := fun st => some ([],st)
noncomputable def zl (f : LM V) (fs : LM (List V)) : LM (List V) := zw f fun v => zw fs fun vs => fun st => some (v :: vs,st)
noncomputable def tupE (fs : LM (List V)) : LM V := zw fs fun vs => fun st => if vs.length≤szL then some (.tup vs,st) else none
noncomputable def lstE (fs : LM (List V)) : LM V := zw fs fun vs => fun st => if vs.length≤szL then some (.ref st.g.length,{ st with g := st.g++[.lst vs] }) else none
section
variable {C : Cx} {A : Around} {fm : Fm} {d : Nat}
theorem ze {pos : Pos} : Snd C A fm VRs (spliced (backTo pos (starEach [] fm.env))) nilL := by
  intro st v st' hf μ s R; injection hf
  exact wpAny_pure (Post.same R .nil)
theorem zc {e : Expr} {rest : List Expr} {pos : Pos} {f : LM V} {fs : LM (List V)} (K : FmOk fm) (h : Snd C A fm VR (eval e fm.env) f) (hr : Snd C A fm VRs (spliced (backTo pos (starEach rest fm.env))) fs)
    (he : starEach (e :: rest) fm.env = (false,eval e fm.env) :: starEach rest fm.env := by rfl) : Snd C A fm VRs (spliced (backTo pos (starEach (e :: rest) fm.env))) (zl f fs) := by
  intro st v st' hf μ s R
  apply gen2 (x := v) (y := st'); intro G hG
  obtain ⟨a,st₁,h1,hf⟩ := zk hf
  obtain ⟨b,st₂,h2,hf⟩ := zk hf
  injection hf
  refine hG _ _ ?_
  rw [he]
  show wpAny _ _ (eval e fm.env >>= fun v => pure [v] >>= fun here => (holding here (spliced (backTo pos (starEach rest fm.env))) >>= fun r => pure (here++r))) _ _ _
  refine wpAny_bind (zo (h _ _ _ h1 μ s R) fun x μ₁ h₁ tk₁ S₁ R₁ ra => wpAny_bind (wpAny_pure (wpAny_bind (wpAny_holding ?_))))
  refine zo (hr _ _ _ h2 μ₁ _ R₁) fun y μ₂ h₂ tk₂ S₂ R₂ rb => wpAny_pure ?_
  exact Post.then rfl S₁ (Post.then rfl S₂ (Post.same R₂ (.cons (ra.step R₁ K S₂) rb)))
theorem zgp {μ : List Addr} {st : St} {s : Shared} {vs : List V} {xs : List Value} (R : Rel C fm μ st s) (hv : VRs s.heap μ vs xs) (hl : vs.length≤szL) : wpAny C.M A (newTuple xs) (Post C fm VR μ s (.tup vs) st) NoE s := by
  have hk : ∀ b o,s.heap.get? b = some o→(s.heap.push { cls := .type "tuple",data := .seq xs.toArray }).get? b = some o := fun b o e => Heap.get?_push_of_some _ e
  refine wpAny_newObj_type ⟨μ,_,s.toks,rfl,.ext' hk,R.ext hk,?_⟩ ?_
  · refine .tup (Heap.get?_push_size _ rfl) (by simpa using hv.1) fun i v x e e' => ?_
    exact (hv.2 i v x e (by simpa using e')).mono (fun b o q _ => hk b o q) fun _ _ q => q
  · show xs.toArray.size≤sizeLine
    have := hv.1; unfold szL at hl; rw [sizeLine_eq]; simp; exact o418 hl this
set_option tactic.hygienic true in
theorem jb {elts : List Expr} {n : Nat} {pos : Pos} {fs : LM (List V)} (h : Snd C A fm VRs (spliced (backTo pos (starEach elts fm.env))) fs) : Snd C A fm VR (eval (.Tuple elts n pos) fm.env) (tupE fs) := by
  intro st v st' hf μ s R
  apply gen2 (x := v) (y := st'); intro G hG
  obtain ⟨a,st₁,h1,hf⟩ := zk hf
  split at hf
  · rename_i hl
    injection hf
    refine hG _ _ ?_
    show wpAny _ _ (standAt pos >>= fun _ => spliced (backTo pos (starEach elts fm.env)) >>= fun vs => newTuple vs) _ _ _
    refine wpAny_bind (wpAny_standAt (wpAny_bind (zo (h _ _ _ h1 μ s R) fun x μ₁ h₁ tk₁ S₁ R₁ ra => ?_)))
    exact wpAny_mono (zgp R₁ ra hl) (fun z s' h => Post.then rfl S₁ h) fun _ _ e => e
  · injection hf
theorem ziy {μ : List Addr} {st : St} {s : Shared} {vs : List V} {xs : List Value} (R : Rel C fm μ st s) (hv : VRs s.heap μ vs xs) (hl : vs.length≤szL) : wpAny C.M A (newList xs) (Post C fm VR μ s (.ref st.g.length) { st with g := st.g++[.lst vs] }) NoE s := by
  have hk : ∀ b o,s.heap.get? b = some o→(s.heap.push { cls := .type "list",data := .seq xs.toArray }).get? b = some o := fun b o e => Heap.get?_push_of_some _ e
  obtain ⟨R',S'⟩ := R.newObj (tk := s.toks) hk (qz _) (Heap.get?_push_size _ rfl) (.lst (by simpa using hv))
  refine wpAny_newObj_type ⟨_,_,s.toks,rfl,S',R',?_⟩ ?_
  · exact .ref (by rw [← R.len,List.getElem?_append_right (Nat.le_refl _)]; simp)
  · show xs.toArray.size≤sizeLine
    have := hv.1; unfold szL at hl; rw [sizeLine_eq]; simp; exact o418 hl this
set_option tactic.hygienic true in
theorem q0 {elts : List Expr} {pos : Pos} {fs : LM (List V)} (h : Snd C A fm VRs (spliced (backTo pos (starEach elts fm.env))) fs) : Snd C A fm VR (eval (.List elts pos) fm.env) (lstE fs) := by
  intro st v st' hf μ s R
  apply gen2 (x := v) (y := st'); intro G hG
  obtain ⟨a,st₁,h1,hf⟩ := zk hf
  split at hf
  · rename_i hl
    injection hf
    refine hG _ _ ?_
    show wpAny _ _ (standAt pos >>= fun _ => spliced (backTo pos (starEach elts fm.env)) >>= fun vs => newList vs) _ _ _
    refine wpAny_bind (wpAny_standAt (wpAny_bind (zo (h _ _ _ h1 μ s R) fun x μ₁ h₁ tk₁ S₁ R₁ ra => ?_)))
    exact wpAny_mono (ziy R₁ ra hl) (fun z s' h => Post.then rfl S₁ h) fun _ _ e => e
  · injection hf
end
end Mine
end
section
namespace Mine
open PySem PyProof.Rows
noncomputable abbrev LF := List V→List LObj→Option (V × List LObj)
noncomputable def zr (fl : LF) (fs : LM (List V)) : LM V := zw fs fun args st => match fl args st.g with
  | some (v,g') => some (v,{ st with g := g' })
  | none => none
noncomputable abbrev ju (C : Cx) (A : Around) (fm : Fm) (f : Value) (kwn : List Str) (fl : LF) : Prop :=
  ∀ args g v g',fl args g = some (v,g')→∀ μ loc s vals kvals,Rel C fm μ ⟨loc,g⟩ s→VRs s.heap μ args (vals++kvals)→kvals.length = kwn.length →
    wpAny C.M A (call f vals (kwn.zip kvals)) (Post C fm VR μ s v ⟨loc,g'⟩) NoE s
set_option tactic.hygienic true in
theorem wb {fl : LF} {fs : LM (List V)} {st : St} {v : V} {st' : St} (h : zr fl fs st = some (v,st')) : ∃ args loc g g',fs st = some (args,⟨loc,g⟩)∧fl args g = some (v,g')∧st' = ⟨loc,g'⟩ := by
  obtain ⟨args,st₁,h1,h2⟩ := zk h
  split at h2
  · rename_i e; injection h2; exact ⟨args,st₁.loc,st₁.g,_,h1,e,rfl⟩
  · injection h2
section
variable {C : Cx} {A : Around} {fm : Fm} {d : Nat}
theorem zdy {x : Str} {pos : Pos} {v : Value} {E : Value→Shared→Prop} {μ : List Addr} {st : St} {s : Shared} {Q : Value→Shared→Prop} (K : FmOk fm) (R : Rel C fm μ st s) (hm : C.mg x = some v) (h : Q v s)
    (hx : fm.env.kindOf x = some .globalImplicit) (hd : (x == ("__debug__" : Str)) = false := by decide) : wpAny C.M A (eval (.Name x pos) fm.env) Q E s :=
  Calls.Name_function_global K.kind hx (Calls.loadGlobal_global (by rw [K.globals]; exact C.g.keeps R.base) hm h) hd
theorem zbe {x : Str} {pos : Pos} {v : Value} {E : Value→Shared→Prop} {μ : List Addr} {st : St} {s : Shared} {Q : Value→Shared→Prop} (K : FmOk fm) (R : Rel C fm μ st s) (hm : C.mg x = none) (hb : bootBuiltins x = some v) (hn : x≠"__name__") (h : Q v s)
    (hx : fm.env.kindOf x = some .globalImplicit) (hd : (x == ("__debug__" : Str)) = false := by decide) : wpAny C.M A (eval (.Name x pos) fm.env) Q E s :=
  Calls.Name_function_global K.kind hx (Calls.loadGlobal_builtin (by rw [K.globals]; exact C.g.keeps R.base) hm (by rw [K.builtins]; exact C.b.keeps R.base) ((C.boot x hn).trans hb) h) hd
theorem qs {x : Str} {pos : Pos} {T : String} (K : FmOk fm) (hm : C.mg x = none) (hb : bootBuiltins x = some (.type T)) (hn : x≠"__name__") (hx : fm.env.kindOf x = some .globalImplicit)
    (hd : (x == ("__debug__" : Str)) = false := by decide) : Snd C A fm VR (eval (.Name x pos) fm.env) (zd (.typ T)) := by
  intro st v st' hf μ s R; injection hf
  exact zbe K R hm hb hn (Post.same R (.typ T)) hx hd
theorem yz {x : Str} {pos : Pos} {v : V} {val : Value} (K : FmOk fm) (hm : C.mg x = some val) (hv : VR C.H0 [] v val) (hx : fm.env.kindOf x = some .globalImplicit)
    (hd : (x == ("__debug__" : Str)) = false := by decide) : Snd C A fm VR (eval (.Name x pos) fm.env) (zd v) := by
  intro st v st' hf μ s R; injection hf
  exact zdy K R hm (Post.same R (hv.mono (fun b o e _ => R.base b o e) fun i a e => by simp at e)) hx hd
theorem VRs.nilKw {h : Heap} {μ : List Addr} {args : List V} {vals : List Value} (H : VRs h μ args vals) : VRs h μ args (vals++[]) := by simpa using H
theorem qh {x : Str} {p pos : Pos} {id : String} {e : Expr} {rest : List Expr} {fs : LM (List V)} {fl : LF} (K : FmOk fm) (hm : C.mg x = none) (hb : bootBuiltins x = some (.builtin id)) (hn : x≠"__name__") (hx : fm.env.kindOf x = some .globalImplicit)
    (hargs : Snd C A fm VRs (spliced (backTo pos (starEach (e :: rest) fm.env))) fs) (hc : ju C A fm (.builtin id) [] fl)
    (hd : (x == ("__debug__" : Str)) = false := by decide)
    (he : starEach (e :: rest) fm.env = (false,eval e fm.env) :: starEach rest fm.env := by rfl) (hplain : (backTo pos (starEach rest fm.env)).any (·.1) = false := by rfl) :
    Snd C A fm VR (eval (.Call (.Name x p) (e :: rest) [] pos) fm.env) (zr fl fs) := by
  intro st v st' hf μ s R
  obtain ⟨args,loc,g,g',h1,h2,rfl⟩ := wb hf
  refine Call_Name rfl (zbe K R hm hb hn (callWith_builtin1 ?_ he hplain) hx hd)
  refine zo (hargs _ _ _ h1 μ s R) fun y μ₁ h₁ tk₁ S₁ R₁ ra => ?_
  exact wpAny_mono (hc args g v g' h2 μ₁ loc _ y [] R₁ ra.nilKw rfl) (fun z s' h => Post.then rfl S₁ h) fun _ _ e => e
theorem q8 {x : Str} {p pos : Pos} {T : String} {e : Expr} {rest : List Expr} {fs : LM (List V)} {fl : LF} (K : FmOk fm) (hm : C.mg x = none) (hb : bootBuiltins x = some (.type T)) (hn : x≠"__name__") (hx : fm.env.kindOf x = some .globalImplicit)
    (hargs : Snd C A fm VRs (spliced (backTo pos (starEach (e :: rest) fm.env))) fs) (hc : ju C A fm (.type T) [] fl)
    (hd : (x == ("__debug__" : Str)) = false := by decide)
    (he : starEach (e :: rest) fm.env = (false,eval e fm.env) :: starEach rest fm.env := by rfl) (hplain : (backTo pos (starEach rest fm.env)).any (·.1) = false := by rfl) :
    Snd C A fm VR (eval (.Call (.Name x p) (e :: rest) [] pos) fm.env) (zr fl fs) := by
  intro st v st' hf μ s R
  obtain ⟨args,loc,g,g',h1,h2,rfl⟩ := wb hf
  refine Call_Name rfl (zbe K R hm hb hn (callWith_type1 ?_ he hplain) hx hd)
  refine zo (hargs _ _ _ h1 μ s R) fun y μ₁ h₁ tk₁ S₁ R₁ ra => ?_
  exact wpAny_mono (hc args g v g' h2 μ₁ loc _ y [] R₁ ra.nilKw rfl) (fun z s' h => Post.then rfl S₁ h) fun _ _ e => e
structure FnAt (C : Cx) (f : Addr) (fd : FuncData) : Prop where
  at' : ∃ o,C.H0.get? f = some o∧o.data = .func fd
  code : C.H0.CodeRec fd.code fd.qualname
  globals : fd.globals = mainGlobals
  builtins : fd.builtins = builtinsNs
  kind : fd.scope.kind = .function
  co : fd.scope.isCoroutine = false
  gen : fd.scope.isGenerator = false
noncomputable abbrev CodeOk (C : Cx) (A : Around) (fm : Fm) (f : Value) (kwn : List Str) (fl : LF) : Prop :=
  ∀ args g v g',fl args g = some (v,g')→∀ μ loc s vals kvals,Rel C fm μ ⟨loc,g⟩ s→VRs s.heap μ args (vals++kvals)→kvals.length = kwn.length →
    codeAny C.M A (.call f ⟨vals,kwn.zip kvals⟩) (fun r s' => match r with | .ok (.ret x) => Post C fm VR μ s v ⟨loc,g'⟩ x s' | .ok _ => False | .error e => NoE e s') s
noncomputable def FnOk (C : Cx) (d : Nat) (f : Addr) (kwn : List Str) (fl : LF) : Prop := (∃ fd,FnAt C f fd)∧∀ A fm,OkA d A→FmOk fm→CodeOk C A fm (.ref f) kwn fl
theorem FnOk.call {f : Addr} {kwn : List Str} {fl : LF} (h : FnOk C d f kwn fl) : (∃ fd,FnAt C f fd)∧∀ A fm,OkA d A→FmOk fm→ju C A fm (.ref f) kwn fl :=
  ⟨h.1,fun A fm hA K args g v g' hf μ loc s vals kvals R hv hkw => wpAny_call (h.2 A fm hA K args g v g' hf μ loc s vals kvals R hv hkw)⟩
theorem qd {x : Str} {p pos : Pos} {f : Addr} {e : Expr} {rest : List Expr} {fs : LM (List V)} {fl : LF} (K : FmOk fm) (hm : C.mg x = some (.ref f)) (hx : fm.env.kindOf x = some .globalImplicit)
    (hargs : Snd C A fm VRs (spliced (backTo pos (starEach (e :: rest) fm.env))) fs) (hA : OkA d A) (hc : FnOk C d f [] fl)
    (hd : (x == ("__debug__" : Str)) = false := by decide)
    (he : starEach (e :: rest) fm.env = (false,eval e fm.env) :: starEach rest fm.env := by rfl) :
    Snd C A fm VR (eval (.Call (.Name x p) (e :: rest) [] pos) fm.env) (zr fl fs) := by
  intro st v st' hf μ s R
  obtain ⟨args,loc,g,g',h1,h2,rfl⟩ := wb hf
  obtain ⟨⟨fd,hfd⟩,hc⟩ := hc.call
  obtain ⟨o,ho,hdat⟩ := hfd.at'
  refine Call_Name rfl (zdy K R hm (callWith_def (o := o) hdat ?_ he) hx hd)
  refine zo (hargs _ _ _ h1 μ s R) fun y μ₁ h₁ tk₁ S₁ R₁ ra => ⟨R₁.base _ _ ho,?_⟩
  exact wpAny_mono (hc A fm hA K args g v g' h2 μ₁ loc _ y [] R₁ ra.nilKw rfl) (fun z s' h => Post.then rfl S₁ h) fun _ _ e => e
theorem Rel.back {fm' : Fm} {μ μ' : List Addr} {loc loc' : List (Option V)} {g g' : List LObj} {s : Shared} {h' : Heap} {tk : Nat} (K : FmOk fm) (R : Rel C fm μ ⟨loc,g⟩ s) (hw : ∀ a ∈ fm'.wr,s.heap.get? a = none)
    (S : Step fm' μ μ' s.heap h') (R' : Rel C fm' μ' ⟨loc',g'⟩ { s with heap := h',toks := tk }) : Rel C fm μ' ⟨loc,g'⟩ { s with heap := h',toks := tk }∧Step fm μ μ' s.heap h' := by
  have keep : ∀ b o,s.heap.get? b = some o→b ∉ μ→h'.get? b = some o := fun b o e hb => S.keep b o e (fun q => off (hw b q) e) hb
  have hk : ∀ b o,s.heap.get? b = some o→Imm o→h'.get? b = some o := fun b o e hi => keep b o e (R.imm K e hi).2
  refine ⟨⟨R'.base,?_,R.slen,R.loc0,R.cell0,R'.len,R'.objs,R'.nd,R'.mu0,?_,R'.pins⟩,⟨fun b o e _ h2 => keep b o e h2,S.live,?_⟩⟩
  · obtain ⟨m,hn,ho⟩ := R.ns
    refine ⟨m,hn.at' fun o e => keep _ o e fun q => R.muNeL q rfl,fun i x v hx hv => (ho i x v hx hv).mono hk S.mu fun c hc w q => ?_⟩
    obtain ⟨o,e1,e2⟩ := q
    refine ⟨o,keep c o e1 fun q => ?_,e2⟩
    obtain ⟨z,y⟩ := x
    simp only at hc; subst hc
    exact R.muNeC q (List.mem_of_getElem? hx) rfl
  · obtain ⟨r,rfl,hr⟩ := S.ext
    intro a ha
    rcases List.mem_append.mp ha with ha | ha
    · exact R.apart a ha
    · have hn : s.heap.get? a = none := (hr a ha).elim id (hw a)
      refine ⟨fun q => ?_,fun y c hc q => ?_⟩
      · obtain ⟨m,⟨o',es,ep,ho',_⟩,_⟩ := R.ns
        rw [← q,hn] at ho'; injection ho'
      · obtain ⟨w,o',ho',_⟩ := R.cellLive hc
        rw [← q,hn] at ho'; injection ho'
  · obtain ⟨r,e,hr⟩ := S.ext
    exact ⟨r,e,fun a ha => .inl ((hr a ha).elim id (hw a))⟩
theorem vw : ∀ {names : List Str} {vals : List Value},names.Nodup→∀ (i : Nat) x v,names[i]? = some x→vals[i]? = some v→(names.zip vals).reverse.lookup x = some v
  | [],_,_,i,x,v,h,_ => by simp at h
  | n :: ns,[],_,i,x,v,_,h => by simp at h
  | n :: ns,w :: vals,hnd,i,x,v,hx,hv => by
    have hn := List.nodup_cons.mp hnd
    rw [List.zip_cons_cons,List.reverse_cons,List.lookup_append]
    cases i with
    | zero =>
      simp at hx hv; subst hx hv
      have : (ns.zip vals).reverse.lookup n = none := by
        rw [List.lookup_eq_none_iff]
        intro p hp
        have : p.1 ∈ ns := (List.of_mem_zip (List.mem_reverse.mp hp)).1
        simp
        intro e
        exact hn.1 (e ▸ this)
      rw [this]; simp [List.lookup]
    | succ i =>
      simp at hx hv
      rw [vw hn.2 i x v hx hv]; rfl
end
end Mine
end
section
namespace Mine
open PySem PyProof.Rows
noncomputable def runF (k n : Nat) (extra : List V) (body : LM Fl) : LF := fun args g => if args.length = n then
    match body ⟨(args++extra).map some++List.replicate (k - n - extra.length) none,g⟩ with
    | some (.ret v,st) => some (v,st.g)
    | some (.next,st) => some (.none,st.g)
    | _ => none
  else none
set_option tactic.hygienic true in
theorem zbr {k n : Nat} {extra : List V} {body : LM Fl} {args : List V} {g : List LObj} {v : V} {g' : List LObj} (h : runF k n extra body args g = some (v,g')) :
    args.length = n∧∃ fl loc',body ⟨(args++extra).map some++List.replicate (k - n - extra.length) none,g⟩ = some (fl,⟨loc',g'⟩)∧(fl = .ret v∨(fl = .next∧v = .none)) := by
  unfold runF at h
  split at h
  · rename_i hn
    refine ⟨hn,?_⟩
    split at h
    · rename_i st e; injection h; exact ⟨_,st.loc,e,.inl rfl⟩
    · rename_i st e; injection h; exact ⟨_,st.loc,e,.inr ⟨rfl,rfl⟩⟩
    · injection h
  · injection h
noncomputable abbrev Binds (C : Cx) (fd : FuncData) (kwn : List Str) (names : List Str) (n : Nat) (extra : List V) : Prop :=
  ∀ (s : Shared) (vals kvals : List Value),(∀ b o,C.H0.get? b = some o→s.heap.get? b = some o)→(vals++kvals).length = n→kvals.length = kwn.length →
    ∃ ex,BindsTo s fd ⟨vals,kwn.zip kvals⟩ (names.zip (vals++kvals++ex))∧VRs C.H0 [] extra ex
theorem VRs.append {h : Heap} {μ : List Addr} {a b : List V} {x y : List Value} (h1 : VRs h μ a x) (h2 : VRs h μ b y) : VRs h μ (a++b) (x++y) := by
  refine ⟨by simp [h1.1,h2.1],fun i v w e e' => ?_⟩
  by_cases hi : i < a.length
  · rw [List.getElem?_append_left hi] at e
    rw [List.getElem?_append_left (h1.1 ▸ hi)] at e'
    exact h1.2 i v w e e'
  · rw [List.getElem?_append_right (o252 hi)] at e
    rw [List.getElem?_append_right (by have := h1.1; exact o419 hi this),← h1.1] at e'
    exact h2.2 _ v w e e'
section
variable {C : Cx} {d : Nat}
noncomputable abbrev qt (names : List Str) : List (Str × Option Addr) := names.map fun x => (x,none)
theorem zai : ∀ names : List Str,(qt names).filterMap (·.2) = []
  | [] => rfl
  | _ :: r => by show (qt r).filterMap (·.2) = []; exact zai r
theorem OkA.deep {A : Around} {env : Env} (hA : OkA (d + 1) A) : OkA d (A.deeper env) := ⟨hA.handled,by have := hA.depth; show A.depth + 1 + d < _; exact o421 this,by have := hA.units; show A.units + 3 + 8 * d < _; exact o422 this⟩
theorem fmOk0 {env : Env} {names : List Str} (k : env.scope.kind = .function) (g : env.globals = mainGlobals) (b : env.builtins = builtinsNs) (hnd : names.Nodup) : FmOk ⟨env,qt names,[]⟩ :=
  ⟨k,g,b,by simpa [qt,Function.comp_def] using hnd,by show ((qt names).filterMap (·.2)).Nodup; rw [zai]; exact List.nodup_nil,nofun⟩
theorem zi4 {names : List Str} {i : Nat} {x : Str × Option Addr} (h : (qt names)[i]? = some x) : names[i]? = some x.1∧x.2 = none := by
  rw [List.getElem?_map] at h
  obtain ⟨y,e,rfl⟩ := Option.map_eq_some_iff.mp h
  exact ⟨e,rfl⟩
theorem Rel.enter {fm : Fm} {μ : List Addr} {st : St} {s : Shared} (R : Rel C fm μ st s) {env : Env} {names : List Str} {as : List V} {vs : List Value} {m : Str→Option Value} {h₀ : Heap} {tk r : Nat}
    (hk : ∀ b o,s.heap.get? b = some o→h₀.get? b = some o) (hL : s.heap.get? env.locals = none) (hns : h₀.Ns env.locals m) (hv : VRs s.heap μ as vs)
    (hm : ∀ (i : Nat) y val,names[i]? = some y→vs[i]? = some val→m y = some val) (hlen : names.length = as.length + r) :
    Rel C ⟨env,qt names,[]⟩ μ ⟨as.map some++List.replicate r none,st.g⟩ { s with heap := h₀,toks := tk } := by
  have hi : ∀ b o,s.heap.get? b = some o→Imm o→h₀.get? b = some o := fun b o e _ => hk b o e
  have nc : ∀ x c,(x,some c) ∉ qt names := fun x c h => by
    obtain ⟨_,_,e⟩ := List.mem_map.mp h
    exact nomatch e
  refine ⟨fun b o e => hk b o (R.base b o e),⟨_,hns,fun i x v hx hw => ?_⟩,by simp [hlen],R.fresh hL,fun x c hc => (nc x c hc).elim,R.len,fun i a o ha ho => ?_,R.nd,R.mu0,fun a ha => ⟨fun q => ?_,fun x c hc => (nc x c hc).elim⟩,R.pins⟩
  · obtain ⟨hy,hx2⟩ := zi4 hx
    obtain ⟨y,c⟩ := x
    subst hx2
    cases v with
    | none => trivial
    | some v =>
      rcases Nat.lt_or_ge i as.length with hlt | q
      · rw [List.getElem?_append_left (by simpa using hlt),List.getElem?_map] at hw
        obtain ⟨u,e,hu⟩ := Option.map_eq_some_iff.mp hw
        obtain ⟨val,hval⟩ : ∃ val,vs[i]? = some val := ⟨_,List.getElem?_eq_getElem (hv.1 ▸ hlt)⟩
        exact ⟨val,hm i y val hy hval,(hv.2 i v val (Option.some.inj hu ▸ e) hval).mono hi fun _ _ e => e⟩
      · rw [List.getElem?_append_right (by simpa using q)] at hw
        exact nomatch (List.mem_replicate.mp (List.mem_of_getElem? hw)).2
  · obtain ⟨ob,e1,e2⟩ := R.objs i a o ha ho
    exact ⟨ob,hk a ob e1,e2.mono hi fun _ _ e => e⟩
  · obtain ⟨_,_,e,_⟩ := R.muLive ha
    exact gne hL e q
@[elab_as_elim] theorem FR.out {h : Heap} {μ : List Addr} {fl : Fl} {f : Flow} {v : V} (rf : FR h μ fl f) (hres : fl = .ret v∨(fl = .next∧v = .none)) {G : Flow→Prop} (k : ∀ x,VR h μ v x→G (.ret x)) (n : VR h μ v .none→G .next) : G f := by
  rcases hres with rfl | ⟨rfl,rfl⟩
  · cases rf with | ret r => exact k _ r
  · injection rf; exact n .none
theorem vx {f : Addr} {fd : FuncData} {body : List Stmt} {kwn names : List Str} {n : Nat} {extra : List V} {we : LM Fl} (F : FnAt C f fd) (hbody : fd.body = .stmts body) (hcell : ∀ x ∈ fd.scope.names,x.2≠.cell)
    (hnd : names.Nodup) (hloc : ∀ x ∈ names,fd.scope.names.lookup x = some .local) (hb : Binds C fd kwn names n extra) (hle : n + extra.length≤names.length)
    (h : ∀ A L,OkA d A→FmOk ⟨callEnv fd L f,qt names,[]⟩→Snd C A ⟨callEnv fd L f,qt names,[]⟩ FR (execs body (callEnv fd L f)) we) :
    FnOk C (d + 1) f kwn (runF names.length n extra we) := by
  refine ⟨⟨fd,F⟩,fun A fm hA K args g v g' hf μ loc s vals kvals R hv hkw => ?_⟩
  obtain ⟨hn,fl,loc',hbd,hres⟩ := zbr hf
  obtain ⟨o,ho,hdat⟩ := F.at'
  obtain ⟨ex,hbind,hex⟩ := hb s vals kvals R.base (by rw [← hv.1]; exact hn) hkw
  refine (codeAny_call_def (fd := fd) (body := body) (by have := hA.depth; exact o420 this) (R.base _ _ ho) hdat (C.nolimit.keeps R.base) ?_ hbody hbind hcell (fun x hx => hloc _ (List.of_mem_zip hx).1) (fun h₀ hns hk => ?_) F.co F.gen F.kind)
  · obtain ⟨a,b,c,t,e1,e2,r⟩ := F.code; exact ⟨a,b,c,t,e1,R.base _ _ e2,r⟩
  generalize hL : s.heap.objs.size = L at *
  have hLn : s.heap.get? L = none := hL ▸ qz _
  have K' : FmOk ⟨callEnv fd L f,qt names,[]⟩ := fmOk0 F.kind F.globals F.builtins hnd
  have hvx : VRs s.heap μ (args++extra) (vals++kvals++ex) := hv.append (hex.mono (fun b o e _ => R.base b o e) fun i a e => by simp at e)
  have R0 := R.enter (env := callEnv fd L f) (names := names) (tk := s.toks + (names.zip (vals++kvals++ex)).length) (r := names.length - n - extra.length) hk hLn hns hvx (fun i y val => vw hnd i y val) (by rw [List.length_append,hn]; omega)
  refine wpAny_mono (h _ L hA.deep K' _ _ _ hbd μ _ R0) (fun fl' s' hp => ?_) fun _ _ e => e.elim
  obtain ⟨μ',h',tk,rfl,S',R',rf⟩ := hp
  have S0 : Step ⟨callEnv fd L f,qt names,[]⟩ μ μ' s.heap h' := Step.trans (.ext' hk) S'
  obtain ⟨Rb,Sb⟩ := Rel.back K R (by exact wr1 hLn) S0 R'
  refine ⟨μ',h',tk,rfl,Sb,Rb,?_⟩
  exact FR.out rf hres (fun _ r => r) fun r => r
end
end Mine
end
section
namespace Mine
open PySem PyProof.Rows
noncomputable def jg (g : List LObj) : V→V→Option V
  | .ref i,.int k => match g[i]? with
    | some (.lst xs) => if xs.length≤szL then (if 0≤k then xs[k.toNat]? else if k = -1 then xs[xs.length - 1]? else none) else none
    | _ => none
  | .tup vs,.int k => if 0≤k∧vs.length≤szL then vs[k.toNat]? else none
  | .bytes l,.int k => if 0≤k∧l.length≤szL then (l[k.toNat]?).map fun c => .int c.toNat else none
  | .str l,.int k => if 0≤k∧l.length≤szL then (l[k.toNat]?).map fun c => .str [c] else none
  | _,_ => none
noncomputable def zu (f h : LM V) : LM V := zw f fun a => zw h fun b => fun st => optL (jg st.g a b) st
noncomputable def setV (g : List LObj) (o i v : V) : Option (List LObj) := match o,i with
  | .ref a,.int k => match g[a]? with
    | some (.lst xs) => if 0≤k∧k < xs.length∧xs.length≤szL then some (g.set a (.lst (xs.set k.toNat v))) else none
    | _ => none
  | _,_ => none
noncomputable def setS (f h k : LM V) : LM Fl := zw f fun v => zw h fun o => zw k fun i => fun st => match setV st.g o i v with
  | some g' => some (.next,{ st with g := g' })
  | none => none
section
variable {C : Cx} {A : Around} {fm : Fm}
set_option tactic.hygienic true in
theorem wp_item {value slice : Expr} {μ : List Addr} {st : St} {s : Shared} {a b v : V} {x y : Value} (hv : jg st.g a b = some v) (R : Rel C fm μ st s) (ra : VR s.heap μ a x) (rb : VR s.heap μ b y)
    (hs : ∀ x y,subscripted slice false x y = operate [x,y] (getItem x y)) : wpAny C.M A (subscriptTail value slice x y) (Post C fm VR μ s v st) NoE s := by
  unfold jg at hv
  split at hv
  · rename_i i k
    injection rb
    refine VR.inv ra fun _ hi => ?_
    split at hv
    · rename_i xs hg
      obtain ⟨vals,n,e1,r1⟩ := VRs.isList R hg hi
      have z1 := r1.1
      simp only [Array.length_toList] at z1
      split at hv
      · rename_i hsz
        unfold szL at hsz
        have hl : s.heap.IsList _ vals := ⟨_,e1,rfl,_,rfl⟩
        split at hv
        · rename_i h0
          have hlt := (List.getElem?_eq_some_iff.mp hv).1
          have hx : vals[k.toNat]? = some vals[k.toNat] := Array.getElem?_eq_getElem (o424 z1 hlt)
          refine tail_any hl.typeIs slot_list_getitem.lookup (wpAny_getItem_list hl h0 (by lia) hx ?_) (hs _ _)
          exact Post.same R (r1.2 _ _ _ hv (by simpa using hx))
        · split at hv
          · rename_i hk; subst hk
            have hlt := (List.getElem?_eq_some_iff.mp hv).1
            have e0 : ((-1 : Int) + vals.size).toNat = xs.length - 1 := by exact o425 z1 hsz hlt
            have hx : vals[((-1 : Int) + vals.size).toNat]? = some (vals[xs.length - 1]'(by exact o426 z1 hlt e0)) := by rw [e0]; exact Array.getElem?_eq_getElem (o426 z1 hlt e0)
            refine tail_any hl.typeIs slot_list_getitem.lookup (wpAny_getItem_list_neg hl (by decide) (o427 z1 hsz hlt e0) (by decide) hx ?_) (hs _ _)
            exact Post.same R (r1.2 _ _ _ hv (by simp))
          · injection hv
      · injection hv
    · injection hv
  · rename_i vs k
    obtain ⟨a1,vals,n1,rfl,g1,r1⟩ := ra.tupItems
    injection rb
    have z1 := r1.1
    simp only [Array.length_toList] at z1
    split at hv
    · rename_i hz
      have hsz := hz.2
      unfold szL at hsz
      have hlt := (List.getElem?_eq_some_iff.mp hv).1
      have hx : vals[k.toNat]? = some vals[k.toNat] := Array.getElem?_eq_getElem (o424 z1 hlt)
      have ht : s.heap.IsTuple a1 vals := ⟨_,g1,rfl,_,rfl⟩
      refine tail_any (T := "tuple") ⟨_,g1,rfl⟩ slot_tuple_getitem.lookup (getItem_tuple ⟨_,g1,rfl,_,rfl⟩ (by lia) (by lia) (j := k.toNat) ?_ hx ?_) (hs _ _)
      · simp [seqIndex?]; lia
      · exact Post.same R (r1.2 _ _ _ hv (by simp))
    · injection hv
  · rename_i l k
    injection ra; injection rb
    split at hv
    · rename_i hz
      have hsz := hz.2
      unfold szL at hsz
      cases q : l[k.toNat]? with
      | none => rw [q] at hv; injection hv
      | some c =>
        rw [q] at hv; injection hv
        have hlt := (List.getElem?_eq_some_iff.mp q).1
        refine tail_any (T := "bytes") (PySem.W.typeIs_bytes _ _ _) PySem.W.FB.slot_bytes_getitem.lookup (PySem.W.getItem_bytes (o428 hsz) hz.1 (o429 hz hsz hlt) ?_) (hs _ _)
        rw [List.getD_eq_getElem?_getD,q]
        exact Post.tok R (.int _ _)
    · injection hv
  · rename_i l k
    injection ra; injection rb
    split at hv
    · rename_i hz
      have hsz := hz.2
      unfold szL at hsz
      cases q : l[k.toNat]? with
      | none => rw [q] at hv; injection hv
      | some c =>
        rw [q] at hv; injection hv
        have hlt := (List.getElem?_eq_some_iff.mp q).1
        refine tail_any (T := "str") (typeIs_str _ _ _) F.slot_str_getitem.lookup (P.getItem_str (c := c) ?_ ?_ ?_) (hs _ _)
        · simp; exact o430 hz hsz hlt
        · have e0 : seqIndex? k (⟨l.toArray⟩ : Str).length = some k.toNat := by
            have : (⟨l.toArray⟩ : Str).length = l.length := by simp [Str.length]
            rw [this]; simp [seqIndex?]; lia
          rw [e0]; simpa using q
        · exact Post.tok R (.str [c] _)
    · injection hv
  · injection hv
theorem zv {v i : Expr} {pos : Pos} {f h : LM V} (K : FmOk fm) (hv : Snd C A fm VR (eval v fm.env) f) (hi : Snd C A fm VR (eval i fm.env) h)
    (hs : ∀ x y,subscripted i false x y = operate [x,y] (getItem x y) := by intro _ _; rfl) : Snd C A fm VR (eval (.Subscript v i pos) fm.env) (zu f h) := by
  intro st w st' hf μ s R
  obtain ⟨a,st₁,h1,hf⟩ := zk hf
  obtain ⟨b,st₂,h2,hf⟩ := zk hf
  obtain ⟨h3,rfl⟩ := j8 hf
  refine Subscript_ (zo (hv _ _ _ h1 μ s R) fun x μ₁ h₁ tk₁ S₁ R₁ ra => zo (hi _ _ _ h2 μ₁ _ R₁) fun y μ₂ h₂ tk₂ S₂ R₂ rb => ?_)
  refine wpAny_mono (wp_item h3 R₂ (ra.step R₁ K S₂) rb hs) (fun z s' h => ?_) fun _ _ e => e
  exact Post.then rfl S₁ (Post.then rfl S₂ h)
theorem VRs.set {h : Heap} {μ : List Addr} {xs : List V} {vals : List Value} {v : V} {x : Value} (H : VRs h μ xs vals) (hv : VR h μ v x) (k : Nat) : VRs h μ (xs.set k v) (vals.set k x) := by
  refine ⟨by simp [H.1],fun i u y e e' => ?_⟩
  by_cases q : i = k
  · subst q
    have h1 : i < xs.length := by have := (List.getElem?_eq_some_iff.mp e).1; simpa using this
    rw [List.getElem?_set_self h1] at e; rw [List.getElem?_set_self (H.1 ▸ h1)] at e'
    injection e; cases e'; exact hv
  · rw [List.getElem?_set_ne (Ne.symm q)] at e e'
    exact H.2 i u y e e'
set_option tactic.hygienic true in
theorem zc5 {μ : List Addr} {st : St} {s : Shared} {o i v : V} {x y z : Value} {g' : List LObj} (K : FmOk fm) (hv : setV st.g o i v = some g') (R : Rel C fm μ st s) (ro : VR s.heap μ o x) (ri : VR s.heap μ i y) (rv : VR s.heap μ v z) :
    wpAny C.M A (setItem x y z) (Post C fm UR μ s () { st with g := g' }) NoE s := by
  unfold setV at hv
  split at hv
  · rename_i a k
    cases ri
    refine VR.inv ro fun _ hi => ?_
    split at hv
    · rename_i xs hg
      obtain ⟨vals,n,e1,r1⟩ := VRs.isList R hg hi
      have z1 := r1.1
      simp only [Array.length_toList] at z1
      split at hv
      · rename_i hz
        injection hv
        have hsz := hz.2.2
        unfold szL at hsz
        obtain ⟨n',hd'⟩ := Obj.data_mapSeq (o := lstO vals n) rfl (·.setIfInBounds k.toNat z)
        refine PySem.W.ki_setAt (n := n) e1 hz.1 (by lia) (o431 z1 hz) ?_
        have hob : (s.heap.update _ (Obj.mapSeq (·.setIfInBounds k.toNat z))).get? _ = some _ := Heap.get?_update_self (Obj.mapSeq (·.setIfInBounds k.toNat z)) e1 (Obj.isFreed_of_seq hd')
        obtain ⟨R',S'⟩ := R.setObj K (tk := s.toks) (o := .lst (xs.set k.toNat v)) hi (Heap.SameBut.update ..) hob (by
          show OR _ _ _ (lstO (vals.setIfInBounds k.toNat z) _)
          refine .lst ?_
          rw [Array.toList_setIfInBounds]
          exact r1.set rv _)
        exact ⟨_,_,_,rfl,S',R',trivial⟩
      · injection hv
    · injection hv
  · injection hv
set_option tactic.hygienic true in
theorem vi {o i value : Expr} {p pos : Pos} {f h k : LM V} (K : FmOk fm) (hv : Snd C A fm VR (eval value fm.env) f) (ho : Snd C A fm VR (eval o fm.env) h) (hi : Snd C A fm VR (eval i fm.env) k)
    (hs : swapsWith value (some (.Subscript o i p)) pos.line fm.env = pure false := by rfl) : Snd C A fm FR (exec (.Assign [.Subscript o i p] value pos) fm.env) (setS f h k) := by
  intro st w st' hf μ s R
  apply gen2 (x := w) (y := st'); intro G hG
  obtain ⟨a,st₁,h1,hf⟩ := zk hf
  obtain ⟨b,st₂,h2,hf⟩ := zk hf
  obtain ⟨c,st₃,h3,hf⟩ := zk hf
  split at hf
  · rename_i g' hg
    injection hf
    refine hG _ _ ?_
    refine wpAny_Assign_Subscript (zo (hv _ _ _ h1 μ s R) fun x μ₁ h₁ tk₁ S₁ R₁ ra => zo (ho _ _ _ h2 μ₁ _ R₁) fun y μ₂ h₂ tk₂ S₂ R₂ rb => zo (hi _ _ _ h3 μ₂ _ R₂) fun z μ₃ h₃ tk₃ S₃ R₃ rc => ?_) hs
    refine zo (zc5 K hg R₃ (rb.step R₂ K S₃) rc ((ra.step R₁ K S₂).step R₂ K S₃)) fun _ μ₄ h₄ tk₄ S₄ R₄ _ => ?_
    exact Post.then rfl S₁ (Post.then rfl S₂ (Post.then rfl S₃ (Post.then rfl S₄ (Post.same R₄ .next))))
  · injection hf
end
end Mine
end
section
namespace Mine
open PySem PyProof.Rows PySem.SeqAt
noncomputable def qf (g : List LObj) : V→Bool
  | .ref i => match g[i]? with
    | some (.lst _) => true
    | _ => false
  | _ => false
noncomputable def zao (_ : List LObj) : V→Bool
  | .str _ => true
  | _ => false
noncomputable def ya (_ : List LObj) : V→Bool
  | .bytes _ => true
  | _ => false
noncomputable def q5 (k : List LObj→V→Bool) (fl : LF) (f : LM V) (fs : LM (List V)) : LM V := zw f fun v => fun st => if k st.g v then
    zw fs (fun args st => match fl (v :: args) st.g with
      | some (r,g') => some (r,{ st with g := g' })
      | none => none) st
  else none
noncomputable abbrev zgm (C : Cx) (fm : Fm) (T : String) (k : List LObj→V→Bool) : Prop := ∀ μ st s v x,k st.g v = true→Rel C fm μ st s→VR s.heap μ v x→s.TypeIs x T∧∀ a,x = .ref a→∃ o,s.heap.get? a = some o∧o.dict = none
section
variable {C : Cx} {A : Around} {fm : Fm}
set_option tactic.hygienic true in
theorem qe : zgm C fm "list" qf := by
  intro μ st s v x hk R r
  unfold qf at hk
  split at hk
  · refine VR.inv r fun _ hi => ?_
    split at hk
    · rename_i xs hg
      obtain ⟨vals,n,e1,_⟩ := VRs.isList R hg hi
      exact ⟨⟨_,e1,rfl⟩,fun a e => by injection e; exact ⟨_,e1,rfl⟩⟩
    · injection hk
  · injection hk
theorem zed : zgm C fm "str" zao := by
  intro μ st s v x hk R r
  unfold zao at hk
  split at hk
  · cases r; exact ⟨typeIs_str _ _ _,fun a e => by cases e⟩
  · injection hk
theorem zdk : zgm C fm "bytes" ya := by
  intro μ st s v x hk R r
  unfold ya at hk
  split at hk
  · cases r; exact ⟨PySem.W.typeIs_bytes _ _ _,fun a e => by cases e⟩
  · injection hk
set_option tactic.hygienic true in
theorem qg {o e : Expr} {rest : List Expr} {name : Str} {apos pos : Pos} {T id : String} {k : List LObj→V→Bool} {f : LM V} {fs : LM (List V)} {fl : LF} (K : FmOk fm) (hr : zgm C fm T k) (pa : PlainAttrs T) (slot : Slot T name id)
    (hty : typeOf (.builtin id) = pure (.type "method_descriptor")) (ho : Snd C A fm VR (eval o fm.env) f) (hargs : Snd C A fm VRs (spliced (backTo pos (starEach (e :: rest) fm.env))) fs) (hc : ju C A fm (.builtin id) [] fl) {pl : Sem Bool}
    (hev : eval (.Call (.Attribute o name apos) (e :: rest) [] pos) fm.env = (do
      let ov ← eval o fm.env
      standAt apos.atName
      let (f,first) ← holding [ov] (getMethod ov name pl)
      callWith pos f first (backTo pos (starEach (e :: rest) fm.env)) []) := by rfl)
    (he : starEach (e :: rest) fm.env = (false,eval e fm.env) :: starEach rest fm.env := by rfl) (hplain : (backTo pos (starEach rest fm.env)).any (·.1) = false := by rfl) :
    Snd C A fm VR (eval (.Call (.Attribute o name apos) (e :: rest) [] pos) fm.env) (q5 k fl f fs) := by
  intro st w st' hf μ s R
  apply gen2 (x := w) (y := st'); intro G hG
  obtain ⟨a,st₁,h1,hf⟩ := zk hf
  split at hf
  · rename_i hk
    obtain ⟨args,st₂,h2,hf⟩ := zk hf
    split at hf
    · rename_i r g' h3
      injection hf
      refine hG _ _ ?_
      refine MethodCall_ (pl := pl) (zo (ho _ _ _ h1 μ s R) fun x μ₁ h₁ tk₁ S₁ R₁ ra => ?_) hev
      obtain ⟨t1,t2⟩ := hr _ _ _ _ _ hk R₁ ra
      refine getMethod_builtin t1 pa slot hty t2 ?_
      refine callWith_method1 (zo (hargs _ _ _ h2 μ₁ _ R₁) fun y μ₂ h₂ tk₂ S₂ R₂ rb => ?_) he hplain
      have := hc (a :: args) st₂.g _ _ h3 μ₂ st₂.loc _ (x :: y) [] R₂ (VRs.nilKw (.cons (ra.step R₁ K S₂) rb)) rfl
      exact wpAny_mono this (fun z s' h => Post.then rfl S₁ (Post.then rfl S₂ h)) fun _ _ e => e
    · injection hf
  · injection hf
set_option tactic.hygienic true in
theorem zkk {o : Expr} {name : Str} {apos pos : Pos} {T id : String} {k : List LObj→V→Bool} {f : LM V} {fl : LF} (hr : zgm C fm T k) (pa : PlainAttrs T) (slot : Slot T name id)
    (hty : typeOf (.builtin id) = pure (.type "method_descriptor")) (ho : Snd C A fm VR (eval o fm.env) f) (hc : ju C A fm (.builtin id) [] fl) {pl : Sem Bool}
    (hev : eval (.Call (.Attribute o name apos) [] [] pos) fm.env = (do
      let ov ← eval o fm.env
      standAt apos.atName
      let (f,first) ← holding [ov] (getMethod ov name pl)
      callWith pos f first (backTo pos (starEach [] fm.env)) []) := by rfl) :
    Snd C A fm VR (eval (.Call (.Attribute o name apos) [] [] pos) fm.env) (q5 k fl f nilL) := by
  intro st w st' hf μ s R
  apply gen2 (x := w) (y := st'); intro G hG
  obtain ⟨a,st₁,h1,hf⟩ := zk hf
  split at hf
  · rename_i hk
    obtain ⟨args,st₂,h2,hf⟩ := zk hf
    cases h2
    split at hf
    · rename_i r g' h3
      cases hf
      refine hG _ _ ?_
      refine MethodCall_ (pl := pl) (zo (ho _ _ _ h1 μ s R) fun x μ₁ h₁ tk₁ S₁ R₁ ra => ?_) hev
      obtain ⟨t1,t2⟩ := hr _ _ _ _ _ hk R₁ ra
      refine getMethod_builtin t1 pa slot hty t2 (callWith_method0 ?_)
      have := hc [a] st₁.g _ _ h3 μ₁ st₁.loc _ [x] [] R₁ (VRs.nilKw (.cons ra .nil)) rfl
      exact wpAny_mono this (fun z s' h => Post.then rfl S₁ h) fun _ _ e => e
    · injection hf
  · injection hf
theorem VRs.split1 {h : Heap} {μ : List Addr} {a : V} {vals kvals : List Value} (H : VRs h μ [a] (vals++kvals)) (hk : kvals.length = ([] : List Str).length) : ∃ x,vals = [x]∧kvals = []∧VR h μ a x := by
  have : kvals = [] := List.length_eq_zero_iff.mp hk
  subst this
  simp only [List.append_nil] at H
  match vals,H with
  | [x],H => exact ⟨x,rfl,rfl,H.uncons.1⟩
  | [],H => have := H.1; simp at this
  | _ :: _ :: _,H => have := H.1; simp at this
theorem VRs.split2 {h : Heap} {μ : List Addr} {a b : V} {vals kvals : List Value} (H : VRs h μ [a,b] (vals++kvals)) (hk : kvals.length = ([] : List Str).length) : ∃ x y,vals = [x,y]∧kvals = []∧VR h μ a x∧VR h μ b y := by
  have : kvals = [] := List.length_eq_zero_iff.mp hk
  subst this
  simp only [List.append_nil] at H
  match vals,H with
  | [x,y],H => exact ⟨x,y,rfl,rfl,H.uncons.1,H.uncons.2.uncons.1⟩
  | [],H => have := H.1; simp at this
  | [_],H => have := H.1; simp at this
  | _ :: _ :: _ :: _,H => have := H.1; simp at this
noncomputable def zt : LF
  | [.ref i,v],g => match g[i]? with
    | some (.lst xs) => if xs.length≤szL then some (.none,g.set i (.lst (xs++[v]))) else none
    | _ => none
  | _,_ => none
set_option tactic.hygienic true in
theorem qu (K : FmOk fm) : ju C A fm (.builtin "list.append") [] zt := by
  intro args g v g' hf μ loc s vals kvals R hv hkw
  apply gen4 (x := vals) (y := kvals) (z := v) (w := g'); intro G hG
  unfold zt at hf
  split at hf
  · rename_i i v
    obtain ⟨x,y,rfl,rfl,ra,rb⟩ := hv.split2 hkw
    refine VR.inv ra fun _ hi => ?_
    split at hf
    · rename_i xs hg
      split at hf
      · rename_i hz
        injection hf
        obtain ⟨vals,n,e1,r1⟩ := VRs.isList R hg hi
        have z1 := r1.1
        simp only [Array.length_toList] at z1
        refine hG _ _ _ _ ?_
        refine append_at e1 (fun h' hs ho => ?_) (by unfold szL at hz; rw [sizeLine_eq]; exact o418 hz z1)
        obtain ⟨R',S'⟩ := R.setObj K (tk := s.toks) (o := .lst (xs++[v])) hi hs ho (.lst (by rw [Array.toList_push]; exact r1.append (.cons rb .nil)))
        exact ⟨_,_,_,rfl,S',R',.none⟩
      · injection hf
    · injection hf
  · injection hf
noncomputable def popF : LF
  | [.ref i],g => match g[i]? with
    | some (.lst xs) => if xs.length≤szL then (xs[xs.length - 1]?).map fun v => (v,g.set i (.lst (xs.eraseIdx (xs.length - 1)))) else none
    | _ => none
  | [.ref i,.int 0],g => match g[i]? with
    | some (.lst (x :: xs)) => if xs.length < szL then some (x,g.set i (.lst xs)) else none
    | _ => none
  | _,_ => none
set_option tactic.hygienic true in
theorem VRs.erase {h : Heap} {μ : List Addr} {xs : List V} {vals : List Value} (H : VRs h μ xs vals) (k : Nat) : VRs h μ (xs.eraseIdx k) (vals.eraseIdx k) := by
  refine ⟨by simp [List.length_eraseIdx,H.1],fun i u y e e' => ?_⟩
  rw [List.getElem?_eraseIdx] at e e'
  split at e
  · rename_i hlt; rw [if_pos hlt] at e'; exact H.2 _ u y e e'
  · rename_i hlt; rw [if_neg hlt] at e'; exact H.2 _ u y e e'
set_option tactic.hygienic true in
theorem zks (K : FmOk fm) : ju C A fm (.builtin "list.pop") [] popF := by
  intro args g v g' hf μ loc s vals kvals R hv hkw
  apply gen4 (x := vals) (y := kvals) (z := v) (w := g'); intro G hG
  unfold popF at hf
  split at hf
  · rename_i i
    obtain ⟨x,rfl,rfl,ra⟩ := hv.split1 hkw
    refine VR.inv ra fun _ hi => ?_
    split at hf
    · rename_i xs hg
      split at hf
      · rename_i hz
        unfold szL at hz
        cases q : xs[xs.length - 1]? with
        | none => rw [q] at hf; injection hf
        | some v =>
          rw [q] at hf; injection hf
          obtain ⟨vals,n,e1,r1⟩ := VRs.isList R hg hi
          have z1 := r1.1
          simp only [Array.length_toList] at z1
          have hlt := (List.getElem?_eq_some_iff.mp q).1
          have hy : vals[vals.size - 1]? = some (vals[vals.size - 1]'(by lia)) := Array.getElem?_eq_getElem _
          refine hG _ _ _ _ ?_
          refine call_meets PySem.F.slot_list_pop ⟨_,e1,rfl⟩ PySem.F.entry_list_pop (PySem.F.args_list_pop_1 _) (PySem.MeetsSeq.list_pop_last _ vals n _ hy (by rw [sizeLine_eq]; lia)) ⟨e1,?_⟩
          obtain ⟨n',hd'⟩ := Obj.data_mapSeq (o := lstO vals n) rfl (fun xs => xs.eraseIdxIfInBounds (vals.size - 1))
          have hob := Heap.get?_update_self (Obj.mapSeq (fun xs => xs.eraseIdxIfInBounds (vals.size - 1))) e1 (Obj.isFreed_of_seq hd')
          obtain ⟨R',S'⟩ := R.setObj K (tk := s.toks) (o := .lst (xs.eraseIdx (xs.length - 1))) hi (Heap.SameBut.update ..) hob (by
            show OR _ _ _ (lstO (vals.eraseIdxIfInBounds (vals.size - 1)) _)
            refine .lst ?_
            rw [z1]
            have := r1.erase (vals.size - 1)
            have e2 : (vals.eraseIdxIfInBounds (vals.size - 1)).toList = vals.toList.eraseIdx (vals.size - 1) := by simp
            rw [e2]; exact this)
          exact ⟨_,_,_,rfl,S',R',(r1.2 _ _ _ q (by rw [z1]; simpa using hy)).mono (R.keepImm K S') fun _ _ e => e⟩
      · injection hf
    · injection hf
  · rename_i i
    obtain ⟨x,y,rfl,rfl,ra,rb⟩ := hv.split2 hkw
    injection rb
    refine VR.inv ra fun _ hi => ?_
    split at hf
    · rename_i x xs hg
      split at hf
      · rename_i hz
        unfold szL at hz
        injection hf
        obtain ⟨vals,n,e1,r1⟩ := VRs.isList R hg hi
        have z1 := r1.1
        simp only [Array.length_toList,List.length_cons] at z1
        have hy : vals[0]? = some (vals[0]'(by exact o433 hz z1)) := Array.getElem?_eq_getElem _
        have hsq : seqIndex? 0 vals.size = some 0 := by
          unfold seqIndex?
          simp only [Int.lt_irrefl,if_false]
          rw [if_pos (by simp; exact o433 hz z1)]; rfl
        refine hG _ _ _ _ ?_
        refine call_meets PySem.F.slot_list_pop ⟨_,e1,rfl⟩ PySem.F.entry_list_pop (PySem.F.args_list_pop_2 _ _) (PySem.MeetsSeq.list_pop_at _ vals n 0 _ 0 _ (by decide) hsq hy (by rw [sizeLine_eq]; exact o434 hz z1)) ⟨e1,?_⟩
        obtain ⟨n',hd'⟩ := Obj.data_mapSeq (o := lstO vals n) rfl (fun xs => xs.eraseIdxIfInBounds 0)
        have hob := Heap.get?_update_self (Obj.mapSeq (fun xs => xs.eraseIdxIfInBounds 0)) e1 (Obj.isFreed_of_seq hd')
        obtain ⟨R',S'⟩ := R.setObj K (tk := s.toks) (o := .lst xs) hi (Heap.SameBut.update ..) hob (by
          show OR _ _ _ (lstO (vals.eraseIdxIfInBounds 0) _)
          refine .lst ?_
          have := r1.erase 0
          have e2 : (vals.eraseIdxIfInBounds 0).toList = vals.toList.eraseIdx 0 := by simp
          rw [e2]; exact this)
        exact ⟨_,_,_,rfl,S',R',(r1.2 0 _ _ rfl (by simpa using hy)).mono (R.keepImm K S') fun _ _ e => e⟩
      · injection hf
    · injection hf
  · injection hf
noncomputable def lenF : LF
  | [.ref i],g => match g[i]? with
    | some (.lst xs) => if xs.length≤szL then some (.int xs.length,g) else none
    | _ => none
  | [.bytes l],g => if l.length≤szL then some (.int l.length,g) else none
  | _,_ => none
set_option tactic.hygienic true in
theorem yg : ju C A fm (.builtin "len") [] lenF := by
  intro args g v g' hf μ loc s vals kvals R hv hkw
  apply gen4 (x := vals) (y := kvals) (z := v) (w := g'); intro G hG
  unfold lenF at hf
  split at hf
  · rename_i i
    obtain ⟨x,rfl,rfl,ra⟩ := hv.split1 hkw
    refine VR.inv ra fun _ hi => ?_
    split at hf
    · rename_i xs hg
      split at hf
      · rename_i hz
        unfold szL at hz
        injection hf
        obtain ⟨vals,n,e1,r1⟩ := VRs.isList R hg hi
        have z1 := r1.1
        simp only [Array.length_toList] at z1
        refine hG _ _ _ _ ?_
        refine Calls.call_len_list ⟨_,e1,rfl,_,rfl⟩ (by lia) ?_
        rw [← z1]
        exact Post.tok R (.int _ _)
      · injection hf
    · injection hf
  · rename_i l
    obtain ⟨x,rfl,rfl,ra⟩ := hv.split1 hkw
    injection ra
    split at hf
    · rename_i hz
      unfold szL at hz
      injection hf
      refine hG _ _ _ _ ?_
      refine PySem.W.len_bytes (by simp; exact o428 hz) ?_
      have : (l.toArray.size : Int) = l.length := by simp
      rw [this]
      exact Post.tok R (.int _ _)
    · injection hf
  · injection hf
end
end Mine
end
section
namespace Mine
open PySem PyProof.Rows
inductive Src where
  | vals (vs : List V)
  | lst (i : Nat)
noncomputable def Src.get (g : List LObj) (j : Nat) : Src→Option (Option V)
  | .vals vs => some vs[j]?
  | .lst i => match g[i]? with
    | some (.lst xs) => some xs[j]?
    | _ => none
noncomputable def wi (a b : Int) : List V := (List.range (b - a).toNat).map fun (i : Nat) => .int (a + i)
noncomputable def vu (g : List LObj) : V→Option Src
  | .ref i => match g[i]? with
    | some (.lst _) => some (.lst i)
    | _ => none
  | .bytes l => some (.vals (l.map fun c => .int c.toNat))
  | .str l => some (.vals (l.map fun c => .str [c]))
  | .rng a b => if a.natAbs≤1000000∧b.natAbs≤1000000∧a≤b then some (.vals (wi a b)) else none
  | _ => none
noncomputable def zeu : List String := ["list_iterator", "str_ascii_iterator", "str_iterator", "bytes_iterator", "range_iterator"]
noncomputable def ItObj (o : Obj) : Prop := (∃ vs,o.data = .fields vs)∧∃ n,o.cls = .type n∧n ∈ zeu
theorem ItObj.notT {o : Obj} (h : ItObj o) : o.cls≠.type "tuple"∧immT o.cls = false := by
  obtain ⟨_,n,e,hn⟩ := h
  rw [e]
  simp only [zeu,List.mem_cons,List.not_mem_nil,or_false] at hn
  rcases hn with rfl | rfl | rfl | rfl | rfl <;> exact ⟨by decide,by decide⟩
theorem ItObj.notOR {o : Obj} (h : ItObj o) {h' : Heap} {μ : List Addr} {l : LObj} : ¬ OR h' μ l o := by
  obtain ⟨⟨vs,hd⟩,n,hc,hn⟩ := h
  intro x
  have key : n≠"callable_iterator" := by rintro rfl; revert hn; decide
  cases x with
  | cell q _ => rw [q] at hd; cases hd
  | ecell q => rw [q] at hd; cases hd
  | tab _ => injection hc
  | citOn _ _ => simp at hc; exact key hc.symm
  | citOff => simp at hc; exact key hc.symm
  | _ => cases hd
theorem zgr {prog : Program} {w : World} {A : Around} {E : Value→Shared→Prop} {s : Shared} {I : Addr} {o : Obj} {target : Expr} {v : Value} {Q : Unit→Shared→Prop} (ho : s.heap.get? I = some o) (hi : ItObj o) (hQ : Q () s) :
    wpAny (model prog w) A (letOwnedTupleGo target (.ref I) v) Q E s := by
  obtain ⟨⟨vs,hd⟩,n,hc,hn⟩ := hi
  have hno : (["enumerate", "zip", "dict_itemiterator", "dict_reverseitemiterator", "odict_iterator", "itertools.zip_longest", "itertools.pairwise"].contains n) = false := by
    simp only [zeu,List.mem_cons,List.not_mem_nil,or_false] at hn
    rcases hn with rfl | rfl | rfl | rfl | rfl <;> decide
  unfold letOwnedTupleGo
  split
  all_goals first
    | exact wpAny_pure hQ
    | (cases v with
       | ref a =>
         refine wpAny_bind (wpAny_load ho ?_)
         rw [hc,hd]
         refine wpAny_ite ?_
         rw [if_neg (by rw [hno,Bool.false_and]; exact Bool.false_ne_true)]
         exact wpAny_pure hQ
       | _ => exact wpAny_pure hQ)
structure IterOk (C : Cx) (A : Around) (I : Addr) (src : Src) (Inv : List Addr→Nat→Heap→Prop) : Prop where
  live : ∀ μ j h,Inv μ j h→∃ o,h.get? I = some o∧ItObj o
  frame : ∀ μ j h h',Inv μ j h→(∀ o,h.get? I = some o→h'.get? I = some o)→Inv μ j h'
  more : ∀ μ r j h,Inv μ j h→Inv (μ++r) j h
  item : ∀ fm μ st s j v (Q : Option Value→Shared→Prop) (E : Value→Shared→Prop),Rel C fm μ st s→Inv μ j s.heap→src.get st.g j = some (some v) →
    (∀ x h' tk,VR s.heap μ v x→Inv μ (j + 1) h'→(∀ b o,b≠I→s.heap.get? b = some o→h'.get? b = some o)→Q (some x) { s with heap := h',toks := tk })→wpAny C.M A (pyNext (.ref I)) Q E s
  done : ∀ fm μ st s j (Q : Option Value→Shared→Prop) (E : Value→Shared→Prop),Rel C fm μ st s→Inv μ j s.heap→src.get st.g j = some none →
    (∀ h' tk,(∀ b o,b≠I→s.heap.get? b = some o→h'.get? b = some o)→Q none { s with heap := h',toks := tk })→wpAny C.M A (pyNext (.ref I)) Q E s
  self : ∀ μ j s (Q : Value→Shared→Prop) (E : Value→Shared→Prop),Inv μ j s.heap→Q (.ref I) s→wpAny C.M A (pyIter (.ref I)) Q E s
section
variable {C : Cx} {A : Around} {fm : Fm} {I : Addr}
theorem IterOk.ofWalks {vs : List V} {P : Nat→Value→Prop} {St : Nat→Heap→Prop} (W : Walks C.prog C.w A I [I] [I] vs.length P St) (hP : ∀ (j : Nat) v x h μ,vs[j]? = some v→P j x→VR h μ v x)
    (hobj : ∀ j h,St j h→∃ o,h.get? I = some o∧ItObj o) : IterOk C A I (.vals vs) (fun _ j h => j≤vs.length∧St j h) where
  live := fun _ j h st => hobj j h st.2
  frame := fun _ j h h' st hk => ⟨st.1,W.frame j h h' st.2 fun b hb o e => by simp at hb; subst hb; exact hk o e⟩
  more := fun _ _ _ _ st => st
  item := fun fm μ st s j v Q E R hst hg hQ => by
    have hv : vs[j]? = some v := by simpa [Src.get] using hg
    have hlt := (List.getElem?_eq_some_iff.mp hv).1
    exact W.item j s Q E hlt hst.2 fun x h' tk hp st' hk => hQ x h' tk (hP j v x _ _ hv hp) ⟨by exact o11 hlt,st'⟩ fun b o hb e => hk b o (by simpa using hb) e
  done := fun fm μ st s j Q E R hst hg hQ => by
    have hv : vs[j]? = none := by simpa [Src.get] using hg
    have : j = vs.length := by have := List.getElem?_eq_none_iff.mp hv; have := hst.1; exact o435 hst (by assumption)
    subst this
    exact W.done s Q E hst.2 fun h' tk hk => hQ h' tk fun b o hb e => hk b o (by simpa using hb) e
  self := fun μ j s Q E st hQ => W.self j s Q E st.2 hQ
set_option tactic.hygienic true in
theorem IterOk.list (hh : A.handled = none) {i : Nat} : IterOk C A I (.lst i) (fun μ j h => ∃ l,μ[i]? = some l∧h.IsListIter I l j) where
  live := fun μ j h ⟨l,_,o,ho,hc,hd⟩ => ⟨o,ho,⟨_,hd⟩,_,hc,by simp [zeu]⟩
  frame := fun μ j h h' ⟨l,hl,o,ho,r⟩ hk => ⟨l,hl,o,hk o ho,r⟩
  more := fun μ r j h ⟨l,hl,x⟩ => ⟨l,by rw [List.getElem?_append_left (List.getElem?_eq_some_iff.mp hl).1]; exact hl,x⟩
  item := fun fm μ st s j v Q E R hst hg hQ => by
    obtain ⟨l,hl,hit⟩ := hst
    simp only [Src.get] at hg
    · split at hg
      · rename_i xs hq
        cases hg' : xs[j]? with
        | none => rw [hg'] at hg; cases hg
        | some u =>
          rw [hg'] at hg; cases hg
          obtain ⟨vals,n,e1,r1⟩ := VRs.isList R hq hl
          have z1 := r1.1
          simp only [Array.length_toList] at z1
          have hlt := (List.getElem?_eq_some_iff.mp hg').1
          have hx : vals[j]? = some (vals[j]'(by exact o83 z1 hlt)) := Array.getElem?_eq_getElem _
          refine wpAny_pyNext_list_item hit ⟨_,e1,rfl,_,rfl⟩ hx fun h' hit' hs' => ?_
          exact hQ _ h' s.toks (r1.2 _ _ _ hg' (by simp)) ⟨l,hl,hit'⟩ fun b o hb e => hs'.extBut b o hb e
      · injection hg
  done := fun fm μ st s j Q E R hst hg hQ => by
    obtain ⟨l,hl,hit⟩ := hst
    simp only [Src.get] at hg
    · split at hg
      · rename_i xs hq
        have hg' : xs[j]? = none := by simpa using hg
        obtain ⟨vals,n,e1,r1⟩ := VRs.isList R hq hl
        have z1 := r1.1
        simp only [Array.length_toList] at z1
        have hge := List.getElem?_eq_none_iff.mp hg'
        refine wpAny_pyNext_list_end hh hit ⟨_,e1,rfl,_,rfl⟩ (by simp; exact o436 z1 hge) fun h' he' => ?_
        exact hQ h' s.toks fun b o hb e => he' b o hb e
      · injection hg
  self := fun μ j s Q E ⟨l,hl,hit⟩ hQ => wpAny_pyIter_listiter hit hQ
set_option tactic.hygienic true in
theorem zbc (hh : A.handled = none) {μ : List Addr} {st : St} {s : Shared} {v : V} {x : Value} {src : Src} (hs : vu st.g v = some src) (R : Rel C fm μ st s) (r : VR s.heap μ v x) {Q : Value→Shared→Prop} {E : Value→Shared→Prop}
    (hQ : ∀ o Inv,ItObj o→o.isFreed = false→IterOk C A s.heap.objs.size src Inv→Inv μ 0 (s.heap.push o)→Q (.ref s.heap.objs.size) { s with heap := s.heap.push o }) : wpAny C.M A (pyIter x) Q E s := by
  revert hQ
  unfold vu at hs
  split at hs
  · refine VR.inv r fun _ hi => ?_
    split at hs
    · rename_i xs hg
      injection hs
      intro hQ
      obtain ⟨vals,n,e1,r1⟩ := VRs.isList R hg hi
      refine wpAny_pyIter_list ⟨_,e1,rfl,_,rfl⟩ (hQ _ _ ⟨⟨_,rfl⟩,_,rfl,by decide⟩ rfl (.list hh) ⟨_,hi,_,Heap.get?_push_size _ rfl,rfl,rfl⟩)
    · injection hs
  · rename_i l
    injection hs
    intro hQ
    refine VR.inv r fun t => ?_
    refine PySem.W.KBw.pyIter_bytes ?_
    have W := PySem.W.KBw.walks (prog := C.prog) (w := C.w) hh s.heap.objs.size l.toArray (by assumption)
    have hl : l.toArray.size = (l.map fun c => V.int (c.toNat : Int)).length := by simp
    rw [hl] at W
    refine hQ _ _ ⟨⟨_,rfl⟩,_,rfl,by decide⟩ rfl (IterOk.ofWalks W (fun j v x h μ hv hp => ?_) fun j h ⟨o,ho,hc,hd⟩ => ⟨o,ho,⟨_,hd⟩,_,hc,by decide⟩) ⟨Nat.zero_le _,_,Heap.get?_push_size _ rfl,rfl,rfl⟩
    obtain ⟨c,u,hc,rfl⟩ := hp
    simp at hv hc
    obtain ⟨c',hc',rfl⟩ := hv
    rw [hc] at hc'; injection hc'
    exact .int _ _
  · rename_i l
    injection hs
    intro hQ
    refine VR.inv r fun t => ?_
    have hl : (⟨l.toArray⟩ : Str).cps.size = (l.map fun c => V.str [c]).length := by simp
    have hPx : ∀ (j : Nat) (v : V) (x : Value) (h : Heap) (μ : List Addr),(l.map fun c => V.str [c])[j]? = some v→SignAt ⟨l.toArray⟩ j x→VR h μ v x := by
      intro j v x h μ hv hp
      obtain ⟨c,u,hc,rfl⟩ := hp
      simp at hv hc
      obtain ⟨c',hc',rfl⟩ := hv
      rw [hc] at hc'; cases hc'
      exact .str [c] u
    cases ha : (⟨l.toArray⟩ : Str).cps.all (· < 128)
    · have W := Walks.strWide (prog := C.prog) (w := C.w) hh s.heap.objs.size ⟨l.toArray⟩ t
      rw [hl] at W
      exact wpAny_pyIter_wide ha (hQ _ _ ⟨⟨_,rfl⟩,_,rfl,by decide⟩ rfl (IterOk.ofWalks W hPx fun j h ⟨o,ho,hc,hd⟩ => ⟨o,ho,⟨_,hd⟩,_,hc,by decide⟩) ⟨Nat.zero_le _,_,Heap.get?_push_size _ rfl,rfl,rfl⟩)
    · have W := Walks.strAscii (prog := C.prog) (w := C.w) hh s.heap.objs.size ⟨l.toArray⟩ t
      rw [hl] at W
      exact wpAny_pyIter_ascii ha (hQ _ _ ⟨⟨_,rfl⟩,_,rfl,by decide⟩ rfl (IterOk.ofWalks W hPx fun j h ⟨o,ho,hc,hd⟩ => ⟨o,ho,⟨_,hd⟩,_,hc,by decide⟩) ⟨Nat.zero_le _,_,Heap.get?_push_size _ rfl,rfl,rfl⟩)
  · rename_i a b
    split at hs
    · rename_i hz
      injection hs
      intro hQ
      refine VR.inv r fun _ _ _ _ hr => ?_
      have hsz : Builtin.Range.rangeSize a b 1 = (((b - a).toNat : Nat) : Int) := by
        unfold Builtin.Range.rangeSize
        simp only [show (1 : Int) > 0 by decide,if_true]
        split <;> lia
      have W := Walks.range (prog := C.prog) (w := C.w) hh s.heap.objs.size a 1 (b - a).toNat
      have hl : (b - a).toNat = (wi a b).length := by simp [wi]
      rw [hl] at W
      refine wpAny_pyIter_range hr (small_one (by lia) (by lia) (by lia) (by lia)) (hQ _ _ ⟨⟨_,rfl⟩,_,rfl,by decide⟩ rfl (IterOk.ofWalks W (fun j v x h μ hv hp => ?_) fun j h ho => ⟨_,ho,⟨_,rfl⟩,_,rfl,by decide⟩) ⟨Nat.zero_le _,?_⟩)
      · obtain ⟨u,rfl⟩ := hp
        simp [wi] at hv
        obtain ⟨w,hw,rfl⟩ := hv
        obtain ⟨q1,q2⟩ := List.getElem?_eq_some_iff.mp hw
        simp at q2; subst q2
        rw [Int.mul_one]
        exact .int _ _
      · have : s.heap.push { cls := .type "range_iterator",data := .fields #[rawInt a,rawInt (Builtin.Range.rangeSize a b 1),rawInt 1] } = s.heap.push { cls := .type "range_iterator",data := .fields #[rawInt (a + (0 : Nat) * 1),rawInt ((wi a b).length - (0 : Nat)),rawInt 1] } := by
          rw [hsz,hl]; simp
        show IsRangeIter _ _ _ _ _
        rw [this]
        exact Heap.get?_push_size _ rfl
    · injection hs
  · injection hs
theorem Rel.other {μ : List Addr} {st : St} {s : Shared} {h' : Heap} {tk : Nat} {o : Obj} (R : Rel C fm μ st s) (hI : s.heap.get? I = some o) (ho : ItObj o) (h0 : C.H0.get? I = none)
    (hk : ∀ b o,b≠I→s.heap.get? b = some o→h'.get? b = some o) : Rel C fm μ st { s with heap := h',toks := tk } := by
  obtain ⟨hc1,hc2⟩ := ho.notT
  have hno := @ItObj.notOR _ ho
  obtain ⟨⟨vs,hd⟩,_⟩ := ho
  have hi : ∀ b o,s.heap.get? b = some o→Imm o→h'.get? b = some o := fun b o' e im => hk b o' (fun q => by
    obtain rfl := geq hI e q
    rcases im with ⟨q,_⟩ | ⟨q,_⟩
    · exact hc1 q
    · exact nomatch hc2.symm.trans q) e
  refine ⟨fun b o' e => hk b o' (gne h0 e) (R.base b o' e),?_,R.slen,R.loc0,R.cell0,R.len,fun i a o' ha ho' => ?_,R.nd,R.mu0,R.apart,R.pins⟩
  · obtain ⟨m,hn,hso⟩ := R.ns
    refine ⟨m,?_,fun i x v hx hv => (hso i x v hx hv).mono hi (fun _ _ e => e) fun c _ w q => ?_⟩
    · obtain ⟨o',es,ep,e1,e2,r⟩ := hn
      exact ⟨o',es,ep,hk _ _ (gdn hI hd e1 e2 (nomatch ·)) e1,e2,r⟩
    · obtain ⟨o',e1,e2⟩ := q
      exact ⟨o',hk _ _ (gdn hI hd e1 e2 (nomatch ·)) e1,e2⟩
  · obtain ⟨ob,e1,e2⟩ := R.objs i a o' ha ho'
    refine ⟨ob,hk _ _ (fun q => ?_) e1,e2.mono hi fun _ _ e => e⟩
    exact hno (geq hI e1 q ▸ e2)
theorem Step.skip {μ μ' : List Addr} {h h₁ h₂ : Heap} (S : Step fm μ μ' h h₁) (hI : h.get? I = none) (hk : ∀ b o,b≠I→h₁.get? b = some o→h₂.get? b = some o) : Step fm μ μ' h h₂ := by
  have ne : ∀ b o,h.get? b = some o→b≠I := fun b o e q => gne hI e q
  refine ⟨fun b o e h1 h2 => hk b o (ne b o e) (S.keep b o e h1 h2),fun b o e => ?_,S.ext⟩
  obtain ⟨o',e'⟩ := S.live b o e
  exact ⟨o',hk b o' (ne b o e) e'⟩
theorem Rel.iterOff {μ : List Addr} {st : St} {s : Shared} {o : Obj} (R : Rel C fm μ st s) (K : FmOk fm) (hI : s.heap.get? I = some o) (ho : ItObj o) : I ∉ fm.wr∧I ∉ μ := by
  have hno := @ItObj.notOR _ ho
  obtain ⟨⟨vs,hd⟩,_⟩ := ho
  refine ⟨fun hm => ?_,fun hm => ?_⟩
  · rcases List.mem_cons.mp hm with q | hm
    · obtain ⟨m,⟨o',es,ep,e1,e2,_⟩,_⟩ := R.ns
      exact gdn hI hd e1 e2 (nomatch ·) q.symm
    · obtain ⟨x,hx⟩ := K.own _ hm
      obtain ⟨w,o',e1,e2⟩ := R.cellLive hx
      exact gdn hI hd e1 e2 (nomatch ·) rfl
  · obtain ⟨_,ob,e1,e2⟩ := R.muLive hm
    exact hno (geq hI e1 rfl ▸ e2)
theorem IterOk.step {src : Src} {Inv : List Addr→Nat→Heap→Prop} (IO : IterOk C A I src Inv) (K : FmOk fm) (h0 : C.H0.get? I = none) {μ : List Addr} {st : St} {s : Shared} {j : Nat} {v : V} {Q : Option Value→Shared→Prop} {E : Value→Shared→Prop}
    (R : Rel C fm μ st s) (hv : Inv μ j s.heap) (hg : src.get st.g j = some (some v))
    (hQ : ∀ x h' tk,VR h' μ v x→Rel C fm μ st { s with heap := h',toks := tk }→(∀ b o,b≠I→s.heap.get? b = some o→h'.get? b = some o)→(∃ o,h'.get? I = some o∧ItObj o) →
      (∀ μ' h'',Step fm μ μ' h' h''→Inv μ' (j + 1) h'')→Q (some x) { s with heap := h',toks := tk }) : wpAny C.M A (pyNext (.ref I)) Q E s := by
  refine IO.item fm μ st s j v _ _ R hv hg fun y h₂ tk₂ ry hv₂ hk₂ => ?_
  obtain ⟨oi,hoi,hio'⟩ := IO.live _ _ _ hv
  have R₂ := R.other (tk := tk₂) hoi hio' h0 hk₂
  obtain ⟨o₂,ho₂,hio₂⟩ := IO.live _ _ _ hv₂
  refine hQ y h₂ tk₂ (ry.mono (fun b o' e im => hk₂ b o' (fun q => ?_) e) fun _ _ e => e) R₂ hk₂ ⟨o₂,ho₂,hio₂⟩ fun μ' h'' S => ?_
  · obtain rfl := geq hoi e q
    rcases im with ⟨q,_⟩ | ⟨q,_⟩
    · exact hio'.notT.1 q
    · exact nomatch hio'.notT.2.symm.trans q
  · obtain ⟨n1,n2⟩ := R₂.iterOff K ho₂ hio₂
    have := IO.frame μ (j + 1) h₂ h'' hv₂ fun o' e => S.keep _ o' e n1 n2
    obtain ⟨r,rfl,_⟩ := S.ext
    exact IO.more _ _ _ _ this
theorem IterOk.over {src : Src} {Inv : List Addr→Nat→Heap→Prop} (IO : IterOk C A I src Inv) (h0 : C.H0.get? I = none) {μ : List Addr} {st : St} {s : Shared} {j : Nat} {Q : Option Value→Shared→Prop} {E : Value→Shared→Prop}
    (R : Rel C fm μ st s) (hv : Inv μ j s.heap) (hg : src.get st.g j = some none)
    (hQ : ∀ h' tk,Rel C fm μ st { s with heap := h',toks := tk }→(∀ b o,b≠I→s.heap.get? b = some o→h'.get? b = some o)→Q none { s with heap := h',toks := tk }) : wpAny C.M A (pyNext (.ref I)) Q E s := by
  obtain ⟨oi,hoi,hio'⟩ := IO.live _ _ _ hv
  exact IO.done fm μ st s j _ _ R hv hg fun h₂ tk₂ hk₂ => hQ h₂ tk₂ (R.other hoi hio' h0 hk₂) hk₂
end
end Mine
end
section
namespace Mine
open PySem PyProof.Rows
noncomputable def zaz : Nat→Src→Nat→(V→LM Fl)→LM Fl
  | 0,_,_,_ => kj
  | n + 1,src,j,body => fun st => match src.get st.g j with
    | some (some v) => zw (body v) (fun fl => match fl with
        | .next => zaz n src (j + 1) body
        | .cont => zaz n src (j + 1) body
        | .brk => zm
        | .ret v => fun st => some (.ret v,st)) st
    | some none => some (.next,st)
    | none => none
noncomputable def forS (n : Nat) (f : LM V) (asg : V→LM Unit) (body : LM Fl) : LM Fl := zw f fun v st => match vu st.g v with
  | some src => zaz n src 0 (fun x => zw (asg x) fun _ => body) st
  | none => none
noncomputable def unpS (is : List Nat) (v : V) : LM Unit := fun st => match v with
  | .tup vs => if vs.length = is.length then some ((),{ st with loc := (is.zip vs).foldl (fun l p => l.set p.1 (some p.2)) st.loc }) else none
  | _ => none
noncomputable abbrev za2 (C : Cx) (A : Around) (fm : Fm) (target : Expr) (asg : V→LM Unit) : Prop :=
  ∀ v st st',asg v st = some ((),st')→∀ μ s x,Rel C fm μ st s→VR s.heap μ v x→wpAny C.M A (assign target fm.env x) (Post C fm UR μ s () st') NoE s
section
variable {C : Cx} {A : Around} {fm : Fm}
theorem z9 {x : Str} {px : Pos} {i : Nat} (K : FmOk fm) (hx : fm.slots[i]? = some (x,none)) (hl : fm.env.kindOf x = some .local) : za2 C A fm (.Name x px) (stS i) := by
  intro v st st' hf μ s y R r
  injection hf
  exact wpAny_assign_Name (xd K hx hl R r)
theorem uj {x : Str} {px : Pos} {i : Nat} {c : Addr} (K : FmOk fm) (hx : fm.slots[i]? = some (x,some c)) (hl : fm.env.kindOf x = some .cell) (hc : fm.env.cells.lookup x = some c) (hown : c ∈ fm.own) : za2 C A fm (.Name x px) (stS i) := by
  intro v st st' hf μ s y R r
  injection hf
  exact wpAny_assign_Name (zfg K hx hl hc hown R r)
noncomputable def ForQ (R : Result→Shared→Prop) (J : Shared→Prop) : Flow→Shared→Prop
  | .next,s => J s
  | .cont,s => J s
  | .brk,s => R (.ok .next) s
  | .ret v,s => R (.ok (.ret v)) s
theorem for_loop {R : Result→Shared→Prop} {target : Expr} {it : Value} {body : List Stmt} {env : Env} {s : Shared} (I : Nat→Shared→Prop) (n : Nat) (h : I n s) (ht : ∀ v,letOwnedTupleGo target it v = pure ())
    (turn : ∀ n s,I n s→∀ G : Option Value→Shared→Prop,(∀ s₁,R (.ok .next) s₁→G none s₁)→(∀ v s₁,wpAny C.M A (assign target env v) (fun _ s₂ => wpAny C.M A (execs body env) (ForQ R fun s₃ => ∃ m,m < n∧I m s₃) NoE s₂) NoE s₁→G (some v) s₁)→wpAny C.M A (pyNext it) G NoE s) :
    codeAny C.M A (.forLoop target it body [] env) R s := by
  refine codeAny_forLoop I (fun n s hI => wpAny_mono (turn n s hI _ (fun s₁ h => ?_) fun v s₁ h => ?_) (fun _ _ q => q) fun _ _ e => e.elim) n h ht
  · exact wpAny_execs_nil h
  · refine wpAny_mono h (fun _ s₂ h => wpAny_mono h (fun f s₃ h => ?_) fun _ _ e => e.elim) fun _ _ e => e.elim
    cases f <;> exact h
theorem asg_body {target : Expr} {body : List Stmt} {asg : V→LM Unit} {b : LM Fl} (ha : za2 C A fm target asg) (hb : Snd C A fm FR (execs body fm.env) b) {u : V} {st st' : St} {fl : Fl} (q : zw (asg u) (fun _ => b) st = some (fl,st'))
    {μ : List Addr} {s : Shared} {y : Value} (R : Rel C fm μ st s) (ry : VR s.heap μ u y) {Q : Flow→Shared→Prop}
    (k : ∀ z μ' h' tk',Step fm μ μ' s.heap h'→Rel C fm μ' st' { s with heap := h',toks := tk' }→FR h' μ' fl z→Q z { s with heap := h',toks := tk' }) :
    wpAny C.M A (assign target fm.env y) (fun _ s₂ => wpAny C.M A (execs body fm.env) Q NoE s₂) NoE s := by
  obtain ⟨_,st₄,q2,q3⟩ := zk q
  exact zo (ha u _ _ q2 μ _ y R ry) (k := fun _ s₂ => _) fun _ μ₃ h₃ tk₃ S₃ R₃ _ => zo (hb _ _ _ q3 μ₃ _ R₃) (k := fun y s₂ => _) fun z μ₄ h₄ tk₄ S₄ R₄ rb => k z μ₄ h₄ tk₄ (S₃.trans S₄) R₄ rb
set_option tactic.hygienic true in
theorem xg {target iter : Expr} {body : List Stmt} {pos : Pos} {f : LM V} {asg : V→LM Unit} {b : LM Fl} (K : FmOk fm) (hh : A.handled = none) (hi : Snd C A fm VR (eval iter fm.env) f) (ha : za2 C A fm target asg) (hb : Snd C A fm FR (execs body fm.env) b) (n : Nat)
    (hs : ∀ x,foldedSetIterable iter fm.env x = pure x := by intro _; rfl) (ht : ∀ it v,letOwnedTupleGo target it v = pure () := by intro _ _; rfl) :
    Snd C A fm FR (exec (.For target iter body [] pos) fm.env) (forS n f asg b) := by
  intro st v st' hf μ s R
  apply gen2 (x := v) (y := st'); intro G hG
  obtain ⟨w,st₁,h1,hf⟩ := zk hf
  split at hf
  · rename_i src hsrc
    refine hG _ _ ?_
    refine wpAny_For (zo (hi _ _ _ h1 μ s R) fun x μ₁ h₁ tk₁ S₁ R₁ ra => ?_) hs
    refine zbc hh hsrc R₁ ra fun o Inv hio hfr IO hinv => ?_
    have hI0 : h₁.get? h₁.objs.size = none := qz _
    have hIH : C.H0.get? h₁.objs.size = none := R₁.fresh hI0
    generalize hIe : h₁.objs.size = I at *
    have hpush : ∀ b o',h₁.get? b = some o'→(h₁.push o).get? b = some o' := fun b o' e => Heap.get?_push_of_some _ e
    obtain ⟨J,hJ⟩ : ∃ J : Nat→Shared→Prop,∀ k s',J k s'↔∃ μ' stn h' tk j,s' = { s with heap := h',toks := tk }∧Step fm μ₁ μ' h₁ h'∧Rel C fm μ' stn s'∧Inv μ' j h'∧zaz k src j (fun x => zw (asg x) fun _ => b) stn = some (v,st') := ⟨_,fun _ _ => .rfl⟩
    refine for_loop J n ((hJ _ _).2 ⟨μ₁,st₁,_,tk₁,0,rfl,.ext' hpush,R₁.ext hpush,hinv,hf⟩) (fun v => ht _ v) fun k s' hx0 F h0 h1 => ?_
    replace hx0 := (hJ _ _).1 hx0
    obtain ⟨μ',stn,h',tk,j,rfl,S',R',hv',hk⟩ := hx0
    cases k with
    | zero => injection hk
    | succ k =>
      unfold zaz at hk
      split at hk
      · rename_i u hg
        refine IO.step K hIH R' hv' hg fun y h₂ tk₂ ry₂ R₂ hk₂ _ hv₄ => ?_
        have S₂ : Step fm μ₁ μ' h₁ h₂ := S'.skip hI0 hk₂
        obtain ⟨_,st₃,q1,hk⟩ := zk hk
        refine h1 _ _ (asg_body ha hb q1 R₂ ry₂ fun z μ₄ h₄ tk₄ S₂₄ R₄ rb => ?_)
        revert hk
        refine FR.inv rb (fun hk => ?_) (fun hk => ?_) (fun hk => ?_) fun v x r hk => ?_
        · exact ⟨k,Nat.lt_succ_self _,(hJ _ _).2 ⟨μ₄,st₃,h₄,tk₄,j + 1,rfl,S₂.trans S₂₄,R₄,hv₄ _ _ S₂₄,hk⟩⟩
        · exact ⟨k,Nat.lt_succ_self _,(hJ _ _).2 ⟨μ₄,st₃,h₄,tk₄,j + 1,rfl,S₂.trans S₂₄,R₄,hv₄ _ _ S₂₄,hk⟩⟩
        · injection hk; exact ⟨_,_,_,rfl,S₁.trans (S₂.trans S₂₄),R₄,.next⟩
        · injection hk; exact ⟨_,_,_,rfl,S₁.trans (S₂.trans S₂₄),R₄,.ret r⟩
      · rename_i hg
        revert h0
        injection hk
        intro h0
        refine IO.over hIH R' hv' hg fun h₂ tk₂ R₂ hk₂ => ?_
        have S₂ : Step fm μ₁ μ' h₁ h₂ := S'.skip hI0 hk₂
        exact h0 _ ⟨_,_,_,rfl,S₁.trans S₂,R₂,.next⟩
      · injection hk
  · injection hf
end
end Mine
end
section
namespace Mine
open PySem PyProof.Rows
noncomputable def zc2 : Nat→Src→Nat→Nat→(V→LM Unit)→LM Bool→LM V→St→Option St
  | 0,_,_,_,_,_,_,_ => none
  | n + 1,src,j,D,asg,test,elt,st => match src.get st.g j with
    | some (some v) => match asg v st with
      | some (_,st₁) => match test st₁ with
        | some (true,st₂) => match elt st₂ with
          | some (y,st₃) => match zt [.ref D,y] st₃.g with
            | some (_,g') => zc2 n src (j + 1) D asg test elt { st₃ with g := g' }
            | none => none
          | none => none
        | some (false,st₂) => zc2 n src (j + 1) D asg test elt st₂
        | none => none
      | none => none
    | some none => some st
    | none => none
noncomputable def kb (n : Nat) (f : LM V) (k : Nat) (cap : List Nat) (asg : V→LM Unit) (test : LM Bool) (elt : LM V) : LM V := zw f fun v st => match vu st.g v with
  | some src => match zc2 n src 0 st.g.length asg test elt ⟨List.replicate k none++cap.map (fun i => (st.loc[i]?).join),st.g++[.lst []]⟩ with
    | some st' => some (.ref st.g.length,⟨st.loc,st'.g⟩)
    | none => none
  | none => none
noncomputable def yesT : LM Bool := fun st => some (true,st)
section
variable {C : Cx} {A : Around} {fm : Fm}
noncomputable abbrev vv (ifs : List Expr) (env : Env) : Sem Bool := forIn ifs true fun c r => if r = true then do let ok ← isTrue c env (eval c env); pure (ForInStep.yield ok) else pure (ForInStep.yield r)
theorem jo : Snd C A fm BR (vv [] fm.env) yesT := by
  intro st v st' hf μ s R; injection hf
  exact wpAny_pure (Post.same R rfl)
theorem zde {c : Expr} {t : LM Bool} (h : Snd C A fm BR (isTrue c fm.env (eval c fm.env)) t) : Snd C A fm BR (vv [c] fm.env) t := by
  intro st v st' hf μ s R
  unfold vv
  rw [List.forIn_cons]
  simp only [if_true]
  refine wpAny_bind (wpAny_bind (zo (h _ _ _ hf μ s R) fun y μ₁ h₁ tk₁ S₁ R₁ ra => wpAny_pure ?_))
  exact wpAny_pure (Post.then rfl S₁ (Post.same R₁ ra))
theorem zgd {R : Result→Shared→Prop} {s : Shared} {elt target iter : Expr} {ifs : List Expr} {scope : Scope} {pos : Pos} {it acc : Value} {env : Env} (I : Nat→Shared→Prop)
    (turn : ∀ n s,I n s→wpAny C.M A (pyNext it) (fun r s₁ => match r with
      | none => R (.ok .next) s₁
      | some v => wpAny C.M A (letOwnedTupleGo target it v) (fun _ s₁ => wpAny C.M A (assign target env v) (fun _ s₂ =>
          wpAny C.M A (vv ifs env) (fun ok s₃ =>
            if ok = true then wpAny C.M A (eval elt env) (fun x s₄ =>
              wpAny C.M A (call (.builtin "list.append") [acc,x]) (fun _ s₅ => ∃ m,m < n∧I m s₅) NoE s₄) NoE s₃
            else ∃ m,m < n∧I m s₃) NoE s₂) NoE s₁) NoE s₁) NoE s)
    (n : Nat) (h : I n s) : codeAny C.M A (.compLoop (.ListComp elt [⟨target,iter,ifs,0⟩] scope pos) 0 it acc env) R s := by
  refine codeAny_loop rfl I (fun n s hI => ?_) n h
  show wpAny _ A ((compTurn (.ListComp elt [⟨target,iter,ifs,0⟩] scope pos) 0 it acc env).onRaise (fun x => do noteFrame x env; theTreesLotGoes x)) _ _ s
  refine wpAny_noted ?_
  rw [compTurn_list]
  refine wpAny_bind (wpAny_standAt (wpAny_bind (wpAny_mono (turn n s hI) (fun r s₁ h₁ => ?_) fun _ _ h' => h'.elim)))
  cases r with
  | none => exact wpAny_pure h₁
  | some v =>
    refine wpAny_bind (wpAny_mono h₁ (fun _ s₁ h₁ => ?_) fun _ _ h' => h'.elim)
    refine wpAny_bind (wpAny_mono h₁ (fun _ s₂ h₂ => wpAny_bind (wpAny_mono h₂ (fun ok s₃ h₃ => ?_) fun _ _ h' => h'.elim)) fun _ _ h' => h'.elim)
    cases ok with
    | false => exact wpAny_pure ⟨rfl,h₃⟩
    | true =>
      exact wpAny_bind (wpAny_bind (wpAny_mono h₃ (fun x s₄ h₄ => wpAny_bind (wpAny_mono h₄ (fun _ s₅ h₅ => wpAny_pure (wpAny_pure ⟨rfl,h₅⟩)) fun _ _ h' => h'.elim)) fun _ _ h' => h'.elim))
theorem Rel.offDict {μ : List Addr} {st : St} {s : Shared} {h' : Heap} {tk : Nat} {a : Addr} {m : Str→Option Value} (R : Rel C fm μ st s) (hn : s.heap.Ns a m) (hL : a≠fm.env.locals) (h0 : C.H0.get? a = none) (hμ : a ∉ μ)
    (hs : Heap.SameBut a s.heap h') : Rel C fm μ st { s with heap := h',toks := tk } := by
  obtain ⟨o,es,ep,ha,hd,_⟩ := hn
  have hi : ∀ b o',s.heap.get? b = some o'→Imm o'→h'.get? b = some o' := fun b o' e im => (hs.2 b (fun q => by
    obtain rfl := geq ha e q
    rcases im with ⟨_,_,_,q⟩ | ⟨_,_,q⟩ <;> exact nomatch hd.symm.trans q)).trans e
  refine ⟨fun b o' e => (hs.2 b (gne h0 e)).trans (R.base b o' e),?_,R.slen,R.loc0,R.cell0,R.len,fun i c o' hc ho' => ?_,R.nd,R.mu0,R.apart,R.pins⟩
  · obtain ⟨m,hn,hso⟩ := R.ns
    refine ⟨m,hn.sameBut hs (Ne.symm hL),fun i x v hx hv => (hso i x v hx hv).mono hi (fun _ _ e => e) fun c _ w q => q.sameBut hs fun e => ?_⟩
    obtain ⟨o',e1,e2⟩ := q
    exact gdn ha hd e1 e2 (nomatch ·) e
  · obtain ⟨ob,e1,e2⟩ := R.objs i c o' hc ho'
    exact ⟨ob,(hs.2 c fun q => hμ (q ▸ List.mem_of_getElem? hc)).trans e1,e2.mono hi fun _ _ e => e⟩
noncomputable def CTurn (D : Nat) (asg : V→LM Unit) (test : LM Bool) (elt : LM V) (v : V) (st stm : St) : Prop := ∃ st₁ ok st₂,asg v st = some ((),st₁)∧test st₁ = some (ok,st₂) ∧
  (ok = true→∃ y st₃ x g',elt st₂ = some (y,st₃)∧zt [.ref D,y] st₃.g = some (x,g')∧stm = { st₃ with g := g' })∧(ok = false→stm = st₂)
set_option tactic.hygienic true in
theorem zjm {k : Nat} {src : Src} {j D : Nat} {asg : V→LM Unit} {test : LM Bool} {elt : LM V} {st st' : St} (h : zc2 k src j D asg test elt st = some st') :
    ∃ n,k = n + 1∧((∃ v stm,src.get st.g j = some (some v)∧CTurn D asg test elt v st stm∧zc2 n src (j + 1) D asg test elt stm = some st')∨(src.get st.g j = some none∧st' = st)) := by
  cases k with
  | zero => injection h
  | succ n =>
    refine ⟨n,rfl,?_⟩
    apply gen1 (x := st'); intro G hG
    unfold zc2 at h
    split at h
    · rename_i v e
      split at h
      · rename_i st₁ e1
        split at h
        · rename_i st₂ e2
          split at h
          · rename_i y st₃ e3
            split at h
            · rename_i x g' e4
              exact hG _ (.inl ⟨v,_,e,⟨st₁,true,st₂,e1,e2,fun _ => ⟨y,st₃,x,g',e3,e4,rfl⟩,(fun q => nomatch q)⟩,h⟩)
            · injection h
          · injection h
        · rename_i st₂ e2
          exact hG _ (.inl ⟨v,_,e,⟨st₁,false,st₂,e1,e2,(fun q => nomatch q),fun _ => rfl⟩,h⟩)
        · injection h
      · injection h
    · rename_i e
      injection h
      exact hG _ (.inr ⟨e,rfl⟩)
    · injection h
theorem zlh {R : Result→Shared→Prop} {s : Shared} {elt target iter : Expr} {ifs : List Expr} {scope : Scope} {pos : Pos} {it acc : Value} {env : Env} (I : Nat→Shared→Prop) (n : Nat) (h : I n s)
    (turn : ∀ n s,I n s→∀ G : Option Value→Shared→Prop,(∀ s₁,R (.ok .next) s₁→G none s₁) →
      (∀ v s₁,wpAny C.M A (letOwnedTupleGo target it v) (fun _ s₁ => wpAny C.M A (assign target env v) (fun _ s₂ => wpAny C.M A (vv ifs env) (fun ok s₃ =>
        if ok = true then wpAny C.M A (eval elt env) (fun x s₄ => wpAny C.M A (call (.builtin "list.append") [acc,x]) (fun _ s₅ => ∃ m,m < n∧I m s₅) NoE s₄) NoE s₃ else ∃ m,m < n∧I m s₃) NoE s₂) NoE s₁) NoE s₁→G (some v) s₁) →
      wpAny C.M A (pyNext it) G NoE s) : codeAny C.M A (.compLoop (.ListComp elt [⟨target,iter,ifs,0⟩] scope pos) 0 it acc env) R s :=
  zgd I (fun n s hI => wpAny_mono (turn n s hI _ (fun _ h => h) fun _ _ h => h) (fun _ _ q => q) fun _ _ e => e) n h
theorem zli {target elt : Expr} {ifs : List Expr} {asg : V→LM Unit} {test : LM Bool} {el : LM V} (K : FmOk fm) (ha : za2 C A fm target asg) (ht : Snd C A fm BR (vv ifs fm.env) test) (he : Snd C A fm VR (eval elt fm.env) el)
    {D : Nat} {Da : Addr} {v : V} {st st' : St} (q : CTurn D asg test el v st st') {μ : List Addr} {s : Shared} {y : Value} (R : Rel C fm μ st s) (ry : VR s.heap μ v y) (hD : μ[D]? = some Da) {Q : Shared→Prop}
    (k : ∀ μ' h' tk',Step fm μ μ' s.heap h'→Rel C fm μ' st' { s with heap := h',toks := tk' }→Q { s with heap := h',toks := tk' }) :
    wpAny C.M A (assign target fm.env y) (fun _ s₂ => wpAny C.M A (vv ifs fm.env) (fun ok s₃ =>
        if ok = true then wpAny C.M A (eval elt fm.env) (fun x s₄ => wpAny C.M A (call (.builtin "list.append") [.ref Da,x]) (fun _ s₅ => Q s₅) NoE s₄) NoE s₃ else Q s₃) NoE s₂) NoE s := by
  obtain ⟨st₁,ok,st₂,e1,e2,e3,e4⟩ := q
  refine zo (ha v _ _ e1 μ _ y R ry) fun _ μ₅ h₅ tk₅ S₅ R₅ _ => zo (ht _ _ _ e2 μ₅ _ R₅) fun ok' μ₆ h₆ tk₆ S₆ R₆ rok => ?_
  have : ok = ok' := rok
  subst this
  cases ok with
  | false => obtain rfl := e4 rfl; exact k _ _ _ (S₅.trans S₆) R₆
  | true =>
    obtain ⟨w,st₃,x,g',e5,e6,rfl⟩ := e3 rfl
    refine zo (he _ _ _ e5 μ₆ _ R₆) fun z μ₇ h₇ tk₇ S₇ R₇ rz => ?_
    have S₅₇ : Step fm μ μ₇ s.heap h₇ := S₅.trans (S₆.trans S₇)
    exact zo (qu (C := C) (A := A) K _ _ _ _ e6 μ₇ st₃.loc _ [.ref Da,z] [] R₇ (.cons (.ref (S₅₇.mu _ _ hD)) (.cons rz .nil)) rfl) fun _ μ₈ h₈ tk₈ S₈ R₈ _ => k _ _ _ (S₅₇.trans S₈) R₈
noncomputable abbrev jt (fm : Fm) (scope : Scope) (cl : List (Str × Addr)) (Cc : Addr) (own : List Str) (capS : List (Str × Option Addr)) : Fm := ⟨compEnvC scope cl Cc fm.env,qt own++capS,[]⟩
noncomputable def zh8 (C : Cx) (fm : Fm) (μ₁ : List Addr) (st₁ : St) (s₁ : Shared) (g' : List LObj) (acc : Value) (Cc : Addr) (r : Result) (s' : Shared) : Prop :=
  r = .ok .next∧∃ μ' h' tk m a,s' = { s₁ with heap := h',toks := tk }∧acc = .ref a∧μ'[st₁.g.length]? = some a∧Step fm μ₁ μ' s₁.heap h'∧Rel C fm μ' ⟨st₁.loc,g'⟩ s'∧h'.Ns Cc m∧s₁.heap.get? Cc = none∧Cc ∉ μ'
set_option tactic.hygienic true in
theorem zjx {elt target iter : Expr} {ifs : List Expr} {scope : Scope} {pos : Pos} {cl : List (Str × Addr)} {own : List Str} {cap : List Nat} {capS : List (Str × Option Addr)} {asg : V→LM Unit} {test : LM Bool} {el : LM V}
    (K : FmOk fm) (hh : A.handled = none) (hcell : ∀ y ∈ scope.names,y.2≠.cell) (hkind : scope.kind = .function)
    (hcl : capS.length = cap.length) (hcap : ∀ (p : Nat) i,cap[p]? = some i→∃ x c,fm.slots[i]? = some (x,some c)∧capS[p]? = some (x,some c))
    (hK : ∀ Cc,FmOk (jt fm scope cl Cc own capS))
    (ha : ∀ Cc,za2 C A (jt fm scope cl Cc own capS) target asg) (ht : ∀ Cc,Snd C A (jt fm scope cl Cc own capS) BR (vv ifs (compEnvC scope cl Cc fm.env)) test)
    (he : ∀ Cc,Snd C A (jt fm scope cl Cc own capS) VR (eval elt (compEnvC scope cl Cc fm.env)) el) (n : Nat)
    {μ₁ : List Addr} {st₁ : St} {s₁ : Shared} {v : V} {x : Value} {src : Src} {st' : St} (R₁ : Rel C fm μ₁ st₁ s₁) (hsrc : vu st₁.g v = some src) (rv : VR s₁.heap μ₁ v x)
    (hf : zc2 n src 0 st₁.g.length asg test el ⟨List.replicate own.length none++cap.map (fun i => (st₁.loc[i]?).join),st₁.g++[.lst []]⟩ = some st') :
    wpAny C.M A (pyIter x) (fun it s₂ => wpAny C.M A (newList []) (fun acc s₃ => wpAny C.M A (newFunctionEnv scope fm.env.globals cl [] fm.env.qual none .none (some fm.env)) (fun cenv s₄ =>
      codeAny C.M A (.compStart (.ListComp elt [⟨target,iter,ifs,0⟩] scope pos) 0 it acc { cenv with scope := relabel scope fm.env }) (zh8 C fm μ₁ st₁ s₁ st'.g acc cenv.locals) s₄) NoE s₃) NoE s₂) NoE s₁ := by
  refine zbc hh hsrc R₁ rv fun o Inv hio hfr IO hinv => ?_
  have hI0 : s₁.heap.get? s₁.heap.objs.size = none := qz _
  have hIH := R₁.fresh hI0
  generalize hIe : s₁.heap.objs.size = I at *
  have k1 : ∀ b o',s₁.heap.get? b = some o'→(s₁.heap.push o).get? b = some o' := fun b o' e => Heap.get?_push_of_some _ e
  have Ra : Rel C fm μ₁ st₁ { s₁ with heap := s₁.heap.push o } := R₁.ext (tk := s₁.toks) k1
  refine wpAny_newObj_type ?_ (by show (0 : Nat)≤_; exact Nat.zero_le _)
  have hDn : (s₁.heap.push o).get? (s₁.heap.push o).objs.size = none := qz _
  have k2 : ∀ b o',(s₁.heap.push o).get? b = some o'→((s₁.heap.push o).push { cls := .type "list",data := .seq ([] : List Value).toArray }).get? b = some o' := fun b o' e => Heap.get?_push_of_some _ e
  have hDo : ((s₁.heap.push o).push { cls := .type "list",data := .seq ([] : List Value).toArray }).get? (s₁.heap.push o).objs.size = some (lstO #[] 0) := Heap.get?_push_size _ rfl
  dsimp only
  generalize hHe : (s₁.heap.push o).push { cls := .type "list",data := .seq ([] : List Value).toArray } = h₂ at *
  generalize hDe : (s₁.heap.push o).objs.size = D at *
  obtain ⟨R₂,S₂⟩ := Ra.newObj (tk := s₁.toks) (o := .lst []) k2 hDn hDo (.lst .nil)
  refine wpAny_newFunctionEnv hcell (by intro y hy; cases hy) (fun h₃ hns hsb => ?_) hkind
  simp only [Option.isSome_some,if_true] at hsb
  generalize hCe : h₂.objs.size = Cc at *
  have hC2 : h₂.get? Cc = none := hCe ▸ qz _
  have k3 : ∀ b o',h₂.get? b = some o'→h₃.get? b = some o' := fun b o' e => hsb.extBut b o' (gne hC2 e) (Heap.get?_push_of_some _ e)
  have kk : ∀ b o',s₁.heap.get? b = some o'→h₃.get? b = some o' := fun b o' e => k3 b o' (k2 b o' (k1 b o' e))
  have R₃ : Rel C fm (μ₁++[D]) { st₁ with g := st₁.g++[.lst []] } { s₁ with heap := h₃,toks := s₁.toks } := R₂.ext k3
  have hC1 : s₁.heap.get? Cc = none := gback (fun o e => k2 _ _ (k1 _ o e)) hC2
  have hD1 : s₁.heap.get? D = none := gback (k1 D) hDn
  have hCI : Cc≠I := by
    rintro rfl
    obtain ⟨oi,e,_⟩ := IO.live _ _ _ hinv
    rw [k2 _ _ e] at hC2; injection hC2
  have S₃ : Step (jt fm scope cl Cc own capS) μ₁ (μ₁++[D]) s₁.heap h₃ := ⟨fun b o' e _ _ => kk b o' e,fun b o' e => ⟨o',kk b o' e⟩,[D],rfl,fun a ha => by simp at ha; subst ha; exact .inl hD1⟩
  have hinv₃ : Inv (μ₁++[D]) 0 h₃ := IO.more _ _ _ _ (IO.frame _ _ _ _ hinv fun o' e => k3 _ _ (k2 _ _ e))
  have hC0 : C.H0.get? Cc = none := R₁.fresh hC1
  have R0 : Rel C (jt fm scope cl Cc own capS) (μ₁++[D]) ⟨List.replicate own.length none++cap.map (fun i => (st₁.loc[i]?).join),st₁.g++[.lst []]⟩ { s₁ with heap := h₃,toks := s₁.toks } := by
    refine ⟨R₃.base,⟨_,hns,fun i x v hx hv => ?_⟩,by simp [hcl],hC0,fun x c hc => ?_,R₃.len,R₃.objs,R₃.nd,R₃.mu0,fun a ha => ⟨fun q => ?_,fun x c hc q => ?_⟩,R₃.pins⟩
    · simp only at hx hv
      by_cases hlt : i < own.length
      · rw [List.getElem?_append_left (by simpa using hlt)] at hx hv
        have : v = none := by
          have := List.mem_of_getElem? hv
          simpa using (List.mem_replicate.mp this).2
        subst this
        obtain ⟨y,hy,rfl⟩ : ∃ y,own[i]? = some y∧(y,none) = x := by simpa [qt] using hx
        trivial
      · rw [List.getElem?_append_right (by simpa using hlt)] at hx hv
        simp only [List.length_map,List.length_replicate] at hx hv
        rw [List.getElem?_map] at hv
        cases q : cap[i - own.length]? with
        | none => rw [q] at hv; injection hv
        | some ci =>
          rw [q] at hv
          obtain ⟨y,c,e1,e2⟩ := hcap _ _ q
          rw [e2] at hx
          have hx' : (y,some c) = x := Option.some.inj hx
          subst hx'
          obtain ⟨m,hn,hso⟩ := R₃.ns
          have hl : ci < st₁.loc.length := R₁.slen ▸ (List.getElem?_eq_some_iff.mp e1).1
          have hv' : st₁.loc[ci]? = some v := by
            have h1 := List.getElem?_eq_getElem hl
            simp only [Option.map_some,h1,Option.join_some,Option.some.injEq] at hv
            rw [h1,hv]
          have := hso ci _ _ e1 hv'
          unfold slotOk at this ⊢
          cases v <;> exact this
    · rcases List.mem_append.mp hc with hc | hc
      · simp [qt] at hc
      · obtain ⟨p,hp,e⟩ := List.mem_iff_getElem.mp hc
        have hp' : p < cap.length := hcl ▸ hp
        obtain ⟨y,c',e1,e2⟩ := hcap p _ (List.getElem?_eq_getElem hp')
        rw [List.getElem?_eq_getElem hp,e] at e2
        cases e2
        exact R₁.cell0 _ _ (List.mem_of_getElem? e1)
    · have q' : a = Cc := q
      rcases List.mem_append.mp ha with ha | ha
      · obtain ⟨_,_,e,_⟩ := R₁.muLive ha
        exact gne hC1 e q'
      · simp at ha
        rw [← q',ha,hDo] at hC2; injection hC2
    · rcases List.mem_append.mp hc with hc | hc
      · simp [qt] at hc
      · obtain ⟨p,hp,e⟩ := List.mem_iff_getElem.mp hc
        have hp' : p < cap.length := hcl ▸ hp
        obtain ⟨y,c',e1,e2⟩ := hcap p _ (List.getElem?_eq_getElem hp')
        rw [List.getElem?_eq_getElem hp,e] at e2
        cases e2
        exact (R₃.apart a ha).2 _ _ (List.mem_of_getElem? e1) q
  show codeAny C.M A (.compStart (.ListComp elt [⟨target,iter,ifs,0⟩] scope pos) 0 (.ref I) (.ref D) (compEnvC scope cl Cc fm.env)) (zh8 C fm μ₁ st₁ s₁ st'.g (.ref D) Cc) { s₁ with heap := h₃,toks := s₁.toks }
  have hDμ : (μ₁++[D])[st₁.g.length]? = some D := by rw [← R₁.len,List.getElem?_append_right (Nat.le_refl _)]; simp
  have loop : codeAny C.M A (.compLoop (.ListComp elt [⟨target,iter,ifs,0⟩] scope pos) 0 (.ref I) (.ref D) (compEnvC scope cl Cc fm.env)) (zh8 C fm μ₁ st₁ s₁ st'.g (.ref D) Cc) { s₁ with heap := h₃,toks := s₁.toks } := by
    obtain ⟨J,hJ⟩ : ∃ J : Nat→Shared→Prop,∀ k s',J k s'↔∃ μ' stn h' tk j,s' = { s₁ with heap := h',toks := tk }∧Step (jt fm scope cl Cc own capS) μ₁ μ' s₁.heap h'∧Rel C (jt fm scope cl Cc own capS) μ' stn s'∧Inv μ' j h'∧μ'[st₁.g.length]? = some D∧zc2 k src j st₁.g.length asg test el stn = some st' := ⟨_,fun _ _ => .rfl⟩
    refine zlh J n ((hJ _ _).2 ⟨_,_,_,_,0,rfl,S₃,R0,hinv₃,hDμ,hf⟩) fun k s' hx0 F h0 h1 => ?_
    replace hx0 := (hJ _ _).1 hx0
    obtain ⟨μ',stn,h',tk,j,rfl,S',R',hv',hDm,hk⟩ := hx0
    obtain ⟨k',rfl,hk⟩ := zjm hk
    rcases hk with ⟨u,stm,hg,q,hk⟩ | ⟨hg,rfl⟩
    · refine IO.step (hK Cc) hIH R' hv' hg fun y h₄ tk₄ ry₄ R₄ hk₄ ho₄ hv₈ => ?_
      obtain ⟨o₄,ho₄,hio₄⟩ := ho₄
      exact h1 _ _ (zgr ho₄ hio₄ (zli (hK Cc) (ha Cc) (ht Cc) (he Cc) q R₄ ry₄ hDm fun μ₈ h₈ tk₈ S₈ R₈ =>
        ⟨k',Nat.lt_succ_self _,(hJ _ _).2 ⟨μ₈,_,h₈,tk₈,j + 1,rfl,(S'.skip hI0 hk₄).trans S₈,R₈,hv₈ _ _ S₈,S₈.mu _ _ hDm,hk⟩⟩))
    · refine IO.over hIH R' hv' hg fun h₄ tk₄ R₄ hk₄ => ?_
      obtain ⟨Rb,Sb⟩ := Rel.back K R₁ (by exact wr1 hC1) (S'.skip hI0 hk₄) R₄
      obtain ⟨m,hnm,_⟩ := R₄.ns
      exact h0 _ ⟨rfl,μ',h₄,tk₄,m,D,rfl,rfl,hDm,Sb,Rb,hnm,hC1,fun hm => R₄.muNeL hm rfl⟩
  exact codeAny_compStart_list loop (IO.self _ _ _ _ _ hinv₃ loop)
set_option tactic.hygienic true in
theorem ko {elt target iter : Expr} {ifs : List Expr} {scope : Scope} {pos : Pos} {cl : List (Str × Addr)} {f : LM V} {own : List Str} {cap : List Nat} {capS : List (Str × Option Addr)} {asg : V→LM Unit} {test : LM Bool} {el : LM V}
    (K : FmOk fm) (hh : A.handled = none) (hi : Snd C A fm VR (eval iter fm.env) f) (n : Nat) (hclos : closureFor scope fm.env = pure cl)
    (hcl : capS.length = cap.length) (hcap : ∀ (p : Nat) i,cap[p]? = some i→∃ x c,fm.slots[i]? = some (x,some c)∧capS[p]? = some (x,some c))
    (hK : ∀ Cc,FmOk (jt fm scope cl Cc own capS))
    (ha : ∀ Cc,FmOk (jt fm scope cl Cc own capS)→za2 C A (jt fm scope cl Cc own capS) target asg)
    (ht : ∀ Cc,FmOk (jt fm scope cl Cc own capS)→Snd C A (jt fm scope cl Cc own capS) BR (vv ifs (compEnvC scope cl Cc fm.env)) test)
    (he : ∀ Cc,FmOk (jt fm scope cl Cc own capS)→Snd C A (jt fm scope cl Cc own capS) VR (eval elt (compEnvC scope cl Cc fm.env)) el)
    (hcell : ∀ y ∈ scope.names,y.2≠.cell := by decide) (hkind : scope.kind = .function := by rfl) (hnames : ∀ y ∈ scope.names,y.2 = .local→scope.names.lookup y.1 = some .local := by decide)
    (hs : ∀ x,foldedSetIterable iter fm.env x = pure x := by intro _; rfl) :
    Snd C A fm VR (eval (.ListComp elt [⟨target,iter,ifs,0⟩] scope pos) fm.env) (kb n f own.length cap asg test el) := by
  intro st v st' hf μ s R
  apply gen2 (x := v) (y := st'); intro G hG
  obtain ⟨w,st₁,h1,hf⟩ := zk hf
  split at hf
  · rename_i src hsrc
    split at hf
    · rename_i st₂ hl
      injection hf
      refine hG _ _ ?_
      rw [eval_ListComp]
      refine wpAny_comprehension_free (use := none) rfl hs hclos hkind hnames (zo (hi _ _ _ h1 μ s R) fun x μ₁ h₁ tk₁ S₁ R₁ ra => ?_)
      refine wpAny_mono (zjx K hh hcell hkind hcl hcap hK (fun Cc => ha Cc (hK Cc)) (fun Cc => ht Cc (hK Cc)) (fun Cc => he Cc (hK Cc)) n R₁ hsrc ra hl) (fun it s₂ q => wpAny_mono q (fun acc s₃ q => wpAny_mono q (fun cenv s₄ q => codeAny_mono q fun r s' q => ?_) fun _ _ e => e) fun _ _ e => e) fun _ _ e => e
      obtain ⟨rfl,μ',h',tk,m,a,rfl,rfl,hm,S',R',hn,hc1,hcm⟩ := q
      refine ⟨m,hn,fun h'' hsb => ?_⟩
      have hLne : cenv.locals≠fm.env.locals := fun e => by
        obtain ⟨m',⟨o',_,_,e1,_⟩,_⟩ := R₁.ns
        exact gne hc1 e1 e.symm
      have R'' := R'.offDict (tk := tk) hn hLne (R₁.fresh hc1) hcm hsb
      refine ⟨μ',h'',tk,rfl,S₁.trans (S'.skip hc1 fun b o hb e => (hsb.2 b hb).trans e),R'',.ref hm⟩
    · injection hf
  · injection hf
set_option tactic.hygienic true in
theorem xh {y : Str} {py spos : Pos} {i : Nat} {elt target iter : Expr} {ifs : List Expr} {scope : Scope} {pos : Pos} {cl : List (Str × Addr)} {f : LM V} {own : List Str} {cap : List Nat} {capS : List (Str × Option Addr)} {asg : V→LM Unit} {test : LM Bool} {el : LM V}
    (K : FmOk fm) (hh : A.handled = none) (hi : Snd C A fm VR (eval iter fm.env) f) (n : Nat) (hclos : closureFor scope fm.env = pure cl) (hy : fm.slots[i]? = some (y,none)) (hyl : fm.env.kindOf y = some .local)
    (hsw : swapsWith (.ListComp elt [⟨target,iter,ifs,0⟩] scope pos) (some (.Name y py)) spos.line fm.env = pure true)
    (hcl : capS.length = cap.length) (hcap : ∀ (p : Nat) i,cap[p]? = some i→∃ x c,fm.slots[i]? = some (x,some c)∧capS[p]? = some (x,some c))
    (hK : ∀ Cc,FmOk (jt fm scope cl Cc own capS))
    (ha : ∀ Cc,FmOk (jt fm scope cl Cc own capS)→za2 C A (jt fm scope cl Cc own capS) target asg)
    (ht : ∀ Cc,FmOk (jt fm scope cl Cc own capS)→Snd C A (jt fm scope cl Cc own capS) BR (vv ifs (compEnvC scope cl Cc fm.env)) test)
    (he : ∀ Cc,FmOk (jt fm scope cl Cc own capS)→Snd C A (jt fm scope cl Cc own capS) VR (eval elt (compEnvC scope cl Cc fm.env)) el)
    (hcell : ∀ y ∈ scope.names,y.2≠.cell := by decide) (hkind : scope.kind = .function := by rfl) (hnames : ∀ y ∈ scope.names,y.2 = .local→scope.names.lookup y.1 = some .local := by decide)
    (hs : ∀ x,foldedSetIterable iter fm.env x = pure x := by intro _; rfl) :
    Snd C A fm FR (exec (.Assign [.Name y py] (.ListComp elt [⟨target,iter,ifs,0⟩] scope pos) spos) fm.env) (asgS i (kb n f own.length cap asg test el)) := by
  intro st v st' hf μ s R
  apply gen2 (x := v) (y := st'); intro G hG
  obtain ⟨w,stq,hf2,hr⟩ := zk hf
  cases hr
  clear hf
  obtain ⟨w',st₁,h1,hf⟩ := zk hf2
  split at hf
  · rename_i src hsrc
    split at hf
    · rename_i st₂ hl
      injection hf
      refine hG _ _ ?_
      rw [exec_Assign_Name_used _ _ _ _ hsw]
      refine wpAny_bind (wpAny_standAt (wpAny_bind ?_))
      show wpAny _ A (do let _ ← comprehension (.ListComp elt [⟨target,iter,ifs,0⟩] scope pos) scope fm.env _ (newList []) false (eval iter fm.env) (some (assign (.Name y py) fm.env))) _ _ s
      refine wpAny_bind (wpAny_mono (wpAny_comprehension_free (use := some (assign (.Name y py) fm.env)) (Q := fun _ s' => Post C fm FR μ s .next _ .next s') rfl hs hclos hkind hnames (zo (hi _ _ _ h1 μ s R) fun x μ₁ h₁ tk₁ S₁ R₁ ra => ?_)) (fun _ s' hq => wpAny_pure (wpAny_pure hq)) fun _ _ e => e)
      refine wpAny_mono (zjx K hh hcell hkind hcl hcap hK (fun Cc => ha Cc (hK Cc)) (fun Cc => ht Cc (hK Cc)) (fun Cc => he Cc (hK Cc)) n R₁ hsrc ra hl) (fun it s₂ q => wpAny_mono q (fun acc s₃ q => wpAny_mono q (fun cenv s₄ q => codeAny_mono q fun r s' q => ?_) fun _ _ e => e) fun _ _ e => e) fun _ _ e => e
      obtain ⟨rfl,μ',h',tk,m,a,rfl,rfl,hm,S',R',hn,hc1,hcm⟩ := q
      have hLne : cenv.locals≠fm.env.locals := fun e => by
        obtain ⟨m',⟨o',_,_,e1,_⟩,_⟩ := R₁.ns
        exact gne hc1 e1 e.symm
      have hown : cenv.locals ∉ fm.wr := fun hm => by
        rcases List.mem_cons.mp hm with q | hm
        · exact hLne q
        · obtain ⟨x,hx⟩ := K.own _ hm
          obtain ⟨w,o',e1,e2⟩ := R₁.cellLive hx
          exact off hc1 e1
      refine wpAny_assign_Name (zo (xd K hy hyl R' (.ref hm)) fun _ μ₅ h₅ tk₅ S₅ R₅ _ => ?_)
      have hn₅ : h₅.Ns cenv.locals m := hn.at' fun o e => S₅.keep _ o e hown hcm
      refine ⟨m,hn₅,fun h'' hsb => ?_⟩
      have hc5 : cenv.locals ∉ μ₅ := by
        obtain ⟨r,rfl,hr⟩ := S₅.ext
        intro q
        rcases List.mem_append.mp q with q | q
        · exact hcm q
        · rcases hr _ q with q | q
          · obtain ⟨o',_,_,e1,_⟩ := hn
            exact off q e1
          · exact hown q
      have R'' := R₅.offDict (tk := tk₅) hn₅ hLne (R₁.fresh hc1) hc5 hsb
      refine ⟨μ₅,h'',tk₅,rfl,S₁.trans ((S'.trans S₅).skip hc1 fun b o hb e => (hsb.2 b hb).trans e),R'',.next⟩
    · injection hf
  · injection hf
end
end Mine
end
section
namespace Mine
open PySem PyProof.Rows
theorem zcf {kindOf : Str→Option NameKind} : ∀ {binds : List (Str × Value)} {m : Str→Option Value} {x : Str},(∀ p ∈ binds,p.1≠x)→bindL kindOf binds m x = m x
  | [],_,_,_ => rfl
  | (n,v) :: r,m,x,h => by
    unfold bindL
    rw [zcf fun p hp => h p (List.mem_cons_of_mem _ hp)]
    split
    · exact if_neg (Ne.symm (h (n,v) (List.mem_cons_self ..)))
    · rfl
theorem zcg {kindOf : Str→Option NameKind} : ∀ {names : List Str} {vals : List Value} {m : Str→Option Value},names.Nodup→(∀ x ∈ names,kindOf x = some .local)→∀ (i : Nat) x v,names[i]? = some x→vals[i]? = some v→bindL kindOf (names.zip vals) m x = some v
  | [],_,_,_,_,i,x,v,h,_ => by simp at h
  | n :: ns,[],_,_,_,i,x,v,_,h => by simp at h
  | n :: ns,w :: vals,m,hnd,hk,i,x,v,hx,hv => by
    have hn := List.nodup_cons.mp hnd
    rw [List.zip_cons_cons]
    unfold bindL
    cases i with
    | zero =>
      simp at hx hv; subst hx hv
      have hne : ∀ p ∈ ns.zip vals,p.1≠n := fun p hp e => hn.1 (by rw [← e]; exact (List.of_mem_zip hp).1)
      rw [zcf hne,if_pos (hk n (List.mem_cons_self ..))]
      exact if_pos rfl
    | succ i =>
      simp at hx hv
      exact zcg hn.2 (fun y hy => hk y (List.mem_cons_of_mem _ hy)) i x v hx hv
section
variable {C : Cx} {d : Nat}
theorem zb8 {f : Addr} {fd : FuncData} {body : List Stmt} {params : List Str} {slots : Addr→List (Str × Option Addr)} {own : Addr→List Addr} {k : Nat} {we : LM Fl} (F : FnAt C f fd) (hbody : fd.body = .stmts body) (hclo : fd.closure = [])
    (hnd : params.Nodup) (hploc : ∀ x ∈ params,fd.scope.names.lookup x = some .local) (hb : ∀ vals : List Value,vals.length = params.length→bindArgs fd ⟨vals,[]⟩ = pure (params.zip vals))
    (hlen : ∀ L,(slots L).length = k) (hpar : ∀ L (i : Nat) x,params[i]? = some x→(slots L)[i]? = some (x,none)) (hle : params.length≤k)
    (hcs : ∀ L x c,(x,some c) ∈ slots L→(callEnvC fd L f).cells.lookup x = some c)
    (hK : ∀ L,FmOk ⟨callEnvC fd L f,slots L,own L⟩) (hown : ∀ L a,a ∈ own L→L < a)
    (h : ∀ A L,OkA d A→FmOk ⟨callEnvC fd L f,slots L,own L⟩→Snd C A ⟨callEnvC fd L f,slots L,own L⟩ FR (execs body (callEnvC fd L f)) we) :
    FnOk C (d + 1) f [] (runF k params.length [] we) := by
  refine ⟨⟨fd,F⟩,fun A fm hA K args g v g' hf μ loc s vals kvals R hv hkw => ?_⟩
  obtain ⟨hn,fl,loc',hbd,hres⟩ := zbr hf
  have : kvals = [] := List.length_eq_zero_iff.mp hkw
  subst this
  simp only [List.append_nil] at hv hbd
  obtain ⟨o,ho,hdat⟩ := F.at'
  refine (codeAny_call_cells (fd := fd) (body := body) (binds := params.zip vals) (by have := hA.depth; exact o420 this) (R.base _ _ ho) hdat (C.nolimit.keeps R.base) ?_ hbody (hb vals (by rw [← hv.1]; exact hn)) hclo
    (fun x hx => .inl (hploc _ (List.of_mem_zip hx).1)) (fun s₁ ic => ?_) F.co F.gen F.kind)
  · obtain ⟨a,b,c,t,e1,e2,r⟩ := F.code; exact ⟨a,b,c,t,e1,R.base _ _ e2,r⟩
  generalize hL : s.heap.objs.size = L at *
  have hLn : s.heap.get? L = none := hL ▸ qz _
  have hup : ∀ c,L < c→s.heap.get? c = none := fun c hc => Heap.get?_none_of_le (o439 hL hc)
  have K' := hK L
  obtain ⟨h₀,tk₀,rfl,hk⟩ := ic.done
  have hi : ∀ b o,s.heap.get? b = some o→Imm o→h₀.get? b = some o := fun b o e _ => hk b o e
  have hcell : ∀ x c,(x,some c) ∈ slots L→(∃ w,h₀.IsCell c w)∧s.heap.get? c = none := fun x c hx => by
    have e := hcs L x c hx
    exact ⟨⟨_,ic.cell x c e⟩,hup c (ic.above x c (mem_of_lookup e))⟩
  have R0 : Rel C ⟨callEnvC fd L f,slots L,own L⟩ μ ⟨args.map some++List.replicate (k - params.length) none,g⟩ { s with heap := h₀,toks := tk₀ } := by
    refine ⟨fun b o e => hk b o (R.base b o e),⟨_,ic.toInCall.ns,fun i x v hx hw => ?_⟩,?_,R.fresh hLn,fun x c hc => R.fresh (hcell x c hc).2,R.len,fun i a o ha ho => ?_,R.nd,R.mu0,fun a ha => ⟨fun q => ?_,fun x c hc q => ?_⟩,R.pins⟩
    · simp only at hx hw
      by_cases hlt : i < args.length
      · rw [List.getElem?_append_left (by simpa using hlt)] at hw
        rw [List.getElem?_map] at hw
        have hp : i < params.length := by exact o83 hn hlt
        have e1 := hpar L i _ (List.getElem?_eq_getElem hp)
        rw [hx] at e1
        have e1' : x = (params[i],none) := Option.some.inj e1
        subst e1'
        cases q : args[i]? with
        | none => rw [q] at hw; injection hw
        | some u =>
          rw [q] at hw
          have hw' : some u = v := Option.some.inj hw
          subst hw'
          obtain ⟨val,hval⟩ : ∃ val,vals[i]? = some val := ⟨_,List.getElem?_eq_getElem (hv.1 ▸ hlt)⟩
          exact ⟨val,zcg hnd hploc i _ val (List.getElem?_eq_getElem hp) hval,(hv.2 i u val q hval).mono hi fun _ _ e => e⟩
      · rw [List.getElem?_append_right (by simpa using hlt)] at hw
        have : v = none := by
          have := List.mem_of_getElem? hw
          simpa using (List.mem_replicate.mp this).2
        subst this
        obtain ⟨z,q⟩ := x
        cases q with
        | none => trivial
        | some c => exact (hcell z c (List.mem_of_getElem? hx)).1
    · simp [hlen]; exact o440 hle hn
    · obtain ⟨ob,e1,e2⟩ := R.objs i a o ha ho
      exact ⟨ob,hk a ob e1,e2.mono hi fun _ _ e => e⟩
    · obtain ⟨_,_,e,_⟩ := R.muLive ha
      exact gne hLn e q
    · obtain ⟨_,_,e,_⟩ := R.muLive ha
      exact gne (hcell x c hc).2 e q
  refine wpAny_mono (h _ L hA.deep K' _ _ _ (by simpa using hbd) μ _ R0) (fun fl' s' hp => ?_) fun _ _ e => e.elim
  obtain ⟨μ',h',tk,rfl,S',R',rf⟩ := hp
  have S0 : Step ⟨callEnvC fd L f,slots L,own L⟩ μ μ' s.heap h' := Step.trans (.ext' hk) S'
  obtain ⟨Rb,Sb⟩ := Rel.back K R (List.forall_mem_cons.2 ⟨hLn,fun a ha => hup a (hown L a ha)⟩) S0 R'
  refine ⟨μ',h',tk,rfl,Sb,Rb,?_⟩
  exact FR.out rf hres (fun _ r => r) fun r => r
end
end Mine
end
section
namespace Mine
open PySem PyProof.Rows
noncomputable def xy : List (V→LM Unit)→List V→LM Unit
  | [],[] => fun st => some ((),st)
  | f :: fs,v :: vs => zw (f v) fun _ => xy fs vs
  | _,_ => kj
noncomputable def unpA (fs : List (V→LM Unit)) (v : V) : LM Unit := match v with
  | .tup vs => xy fs vs
  | _ => kj
noncomputable def zfk (fs : List (V→LM Unit)) (f : LM V) : LM Fl := zw f fun v => zw (unpA fs v) fun _ => zm
noncomputable def setA (h k : LM V) (v : V) : LM Unit := zw h fun o => zw k fun i => fun st => match setV st.g o i v with
  | some g' => some ((),{ st with g := g' })
  | none => none
section
variable {C : Cx} {A : Around} {fm : Fm}
inductive AsgsOk (C : Cx) (A : Around) (fm : Fm) : List Expr→List (V→LM Unit)→Prop
  | nil : AsgsOk C A fm [] []
  | cons {t : Expr} {ts : List Expr} {f : V→LM Unit} {fs : List (V→LM Unit)} : za2 C A fm t f→assignEach (t :: ts) fm.env = (false,assign t fm.env) :: assignEach ts fm.env→AsgsOk C A fm ts fs→AsgsOk C A fm (t :: ts) (f :: fs)
theorem zfd (K : FmOk fm) : ∀ {ts : List Expr} {fs : List (V→LM Unit)},AsgsOk C A fm ts fs→∀ {vs : List V} {xs : List Value} {st st' : St} {μ : List Addr} {s : Shared},xy fs vs st = some ((),st')→Rel C fm μ st s→VRs s.heap μ vs xs →
    wpAny C.M A (assignInOrder ((assignEach ts fm.env).map (·.2)) xs) (Post C fm UR μ s () st') NoE s := by
  intro ts fs H
  induction H with
  | nil =>
    intro vs xs st st' μ s hf R hv
    cases vs with
    | nil =>
      injection hf
      exact wpAny_pure (Post.same R trivial)
    | cons => injection hf
  | cons h1 h2 _ ih =>
    intro vs xs st st' μ s hf R hv
    cases vs with
    | nil => injection hf
    | cons v vs =>
      cases xs with
      | nil => have := hv.1; simp at this
      | cons x xs =>
        obtain ⟨_,st₁,q1,q2⟩ := zk hf
        rw [h2]
        show wpAny _ _ (holding xs (assign _ fm.env x) >>= fun _ => assignInOrder ((assignEach _ fm.env).map (·.2)) xs) _ _ _
        refine wpAny_bind (wpAny_holding (zo (h1 v _ _ q1 μ s x R hv.uncons.1) fun _ μ₁ h₁ tk₁ S₁ R₁ _ => ?_))
        exact wpAny_mono (ih q2 R₁ (hv.uncons.2.step R K S₁)) (fun z s' h => Post.then rfl S₁ h) fun _ _ e => e
theorem zco : ∀ {fs : List (V→LM Unit)} {vs : List V} {st st' : St},xy fs vs st = some ((),st')→fs.length = vs.length
  | [],[],_,_,_ => rfl
  | f :: fs,v :: vs,st,st',h => by
    obtain ⟨_,st₁,_,q2⟩ := zk h
    simp [zco q2]
  | [],_ :: _,_,_,h => by injection h
  | _ :: _,[],_,_,h => by injection h
theorem AsgsOk.len {ts : List Expr} {fs : List (V→LM Unit)} (H : AsgsOk C A fm ts fs) : (assignEach ts fm.env).length = fs.length∧(assignEach ts fm.env).findIdx? (·.1) = none := by
  induction H with
  | nil => exact ⟨rfl,rfl⟩
  | cons _ h2 _ ih => rw [h2]; exact ⟨by simp [ih.1],by simp [List.findIdx?_cons,ih.2]⟩
set_option tactic.hygienic true in
theorem ui {elts : List Expr} {k : Nat} {tpos : Pos} {fs : List (V→LM Unit)} (K : FmOk fm) (hh : A.handled = none) (H : AsgsOk C A fm elts fs) : za2 C A fm (.Tuple elts k tpos) (unpA fs) := by
  intro v st st' hf μ s x R r
  unfold unpA at hf
  split at hf
  · rename_i vs
    obtain ⟨a1,vals,n1,rfl,g1,r1⟩ := r.tupItems
    show wpAny _ _ (standAt tpos >>= fun _ => unpack (.ref a1) (assignEach elts fm.env)) _ _ _
    refine wpAny_bind (wpAny_standAt ?_)
    unfold unpack
    have hl : (assignEach elts fm.env).length = vals.size := by
      rw [H.len.1,zco hf,r1.1]; simp
    rw [hl,H.len.2]
    refine wpAny_bind (wpAny_holding (wpAny_unpackItems_tuple hh ⟨_,g1,rfl,_,rfl⟩ fun h' hx => ?_))
    have hk : ∀ b o,s.heap.get? b = some o→h'.get? b = some o := fun b o e => hx b o (Nat.ne_of_lt (Heap.lt_size e)) e
    have R' : Rel C fm μ st { s with heap := h' } := R.ext (tk := s.toks) hk
    exact wpAny_mono (zfd K H hf R' (r1.mono (fun b o e _ => hk b o e) fun _ _ e => e)) (fun z s' h => Post.then (tk₁ := s.toks) rfl (.ext' hk) h) fun _ _ e => e
  · injection hf
set_option tactic.hygienic true in
theorem asg_sub {o i : Expr} {p : Pos} {h k : LM V} (K : FmOk fm) (ho : Snd C A fm VR (eval o fm.env) h) (hi : Snd C A fm VR (eval i fm.env) k) : za2 C A fm (.Subscript o i p) (setA h k) := by
  intro v st st' hf μ s x R r
  obtain ⟨b,st₁,h1,hf⟩ := zk hf
  obtain ⟨c,st₂,h2,hf⟩ := zk hf
  split at hf
  · rename_i g' hg
    injection hf
    show wpAny _ _ (holding [x] (eval o fm.env) >>= fun ov => holding [x,ov] (eval i fm.env) >>= fun iv => standAt p >>= fun _ => holding [x,ov,iv] (setItem ov iv x) >>= fun _ => release _ []) _ _ _
    refine wpAny_bind (wpAny_holding (zo (ho _ _ _ h1 μ s R) fun y μ₁ h₁ tk₁ S₁ R₁ ra => wpAny_bind (wpAny_holding (zo (hi _ _ _ h2 μ₁ _ R₁) fun z μ₂ h₂ tk₂ S₂ R₂ rb => ?_))))
    refine wpAny_bind (wpAny_standAt (wpAny_bind (wpAny_holding ?_)))
    refine zo (zc5 K hg R₂ (ra.step R₁ K S₂) rb ((r.step R K S₁).step R₁ K S₂)) fun _ μ₃ h₃ tk₃ S₃ R₃ _ => zda ?_
    exact Post.then rfl S₁ (Post.then rfl S₂ (Post.then rfl S₃ (Post.same R₃ trivial)))
  · injection hf
theorem um {elts : List Expr} {k : Nat} {tpos pos : Pos} {value : Expr} {f : LM V} {fs : List (V→LM Unit)} (K : FmOk fm) (hh : A.handled = none) (hv : Snd C A fm VR (eval value fm.env) f) (H : AsgsOk C A fm elts fs)
    (hs : swapsWithSole [.Tuple elts k tpos] value pos.line fm.env = pure false := by rfl) (hw : swappedStores [.Tuple elts k tpos] value fm.env = pure none := by rfl) :
    Snd C A fm FR (exec (.Assign [.Tuple elts k tpos] value pos) fm.env) (zfk fs f) := by
  intro st w st' hf μ s R
  apply gen2 (x := w) (y := st'); intro G hG
  obtain ⟨a,st₁,h1,hf⟩ := zk hf
  obtain ⟨_,st₂,h2,hf⟩ := zk hf
  injection hf
  refine hG _ _ ?_
  refine Assign_Tuple (zo (hv _ _ _ h1 μ s R) fun x μ₁ h₁ tk₁ S₁ R₁ ra => ?_) hs hw
  exact zo (ui K hh H a _ _ h2 μ₁ _ x R₁ ra) fun _ μ₂ h₂ tk₂ S₂ R₂ _ => Post.then rfl S₁ (Post.then rfl S₂ (Post.same R₂ .next))
end
end Mine
end
section
namespace Mine
open PySem PyProof.Rows PySem.SeqAt
theorem zb4 {h : Heap} {μ : List Addr} : ∀ {vs : List V} {ns : List Int} {items : List Value},v8 vs = some ns→VRs h μ vs items→IntsAre items ns
  | [],ns,items,e,r => by
    injection e
    have : items = [] := List.length_eq_zero_iff.mp r.1.symm
    subst this; exact .nil
  | .int i :: vs,ns,items,e,r => by
    unfold v8 at e
    cases q : v8 vs with
    | none => rw [q] at e; injection e
    | some ms =>
      rw [q] at e; injection e
      cases items with
      | nil => have := r.1; simp at this
      | cons x items =>
        obtain ⟨r1,r2⟩ := r.uncons
        injection r1
        exact .cons _ _ (zb4 q r2)
noncomputable def jf (g : List LObj) (i : Nat) : Option (List Int) := match g[i]? with
  | some (.lst xs) => if xs.length≤szL then v8 xs else none
  | _ => none
section
variable {C : Cx} {A : Around} {fm : Fm}
set_option tactic.hygienic true in
theorem v6 {μ : List Addr} {st : St} {s : Shared} {i : Nat} {ns : List Int} {a : Addr} (R : Rel C fm μ st s) (h : jf st.g i = some ns) (ha : μ[i]? = some a) :
    ∃ vals n,s.heap.get? a = some (lstO vals n)∧IntsAre vals.toList ns∧vals.size = ns.length∧vals.size≤16777216 := by
  unfold jf at h
  split at h
  · rename_i xs hg
    split at h
    · rename_i hz
      obtain ⟨vals,n,e1,r1⟩ := VRs.isList R hg ha
      have z1 := r1.1
      have z2 := (zb4 h r1).length
      simp only [Array.length_toList] at z1 z2
      unfold szL at hz
      exact ⟨vals,n,e1,zb4 h r1,z2,by exact o441 hz z1 z2⟩
    · injection h
  · injection h
noncomputable def j7 : LF
  | [.int b],g => some (.rng 0 b,g)
  | [.int a,.int b],g => some (.rng a b,g)
  | _,_ => none
theorem y1 : ju C A fm (.type "range") [] j7 := by
  intro args g v g' hf μ loc s vals kvals R hv hkw
  apply gen4 (x := vals) (y := kvals) (z := v) (w := g'); intro G hG
  unfold j7 at hf
  split at hf
  · injection hf
    obtain ⟨x,rfl,rfl,ra⟩ := hv.split1 hkw
    injection ra
    have hk : ∀ (ob : Obj) b o,s.heap.get? b = some o→(s.heap.push ob).get? b = some o := fun ob b o e => Heap.get?_push_of_some _ e
    refine hG _ _ _ _ ?_
    exact call_range_1 ⟨μ,_,_,rfl,.ext' (hk _),R.ext (hk _),.rng (Heap.get?_push_size _ rfl)⟩
  · injection hf
    obtain ⟨x,y,rfl,rfl,ra,rb⟩ := hv.split2 hkw
    injection ra; injection rb
    have hk : ∀ (ob : Obj) b o,s.heap.get? b = some o→(s.heap.push ob).get? b = some o := fun ob b o e => Heap.get?_push_of_some _ e
    refine hG _ _ _ _ ?_
    exact call_range_2 ⟨μ,_,_,rfl,.ext' (hk _),R.ext (hk _),.rng (Heap.get?_push_size _ rfl)⟩
  · injection hf
noncomputable def ordF : LF
  | [.str [c]],g => some (.int c,g)
  | _,_ => none
theorem ord_ok : ju C A fm (.builtin "ord") [] ordF := by
  intro args g v g' hf μ loc s vals kvals R hv hkw
  apply gen4 (x := vals) (y := kvals) (z := v) (w := g'); intro G hG
  unfold ordF at hf
  split at hf
  · injection hf
    obtain ⟨x,rfl,rfl,ra⟩ := hv.split1 hkw
    injection ra
    refine hG _ _ _ _ ?_
    exact P.ord_of_char (Post.tok R (.int _ _))
  · injection hf
noncomputable def chrF : LF
  | [.int i],g => if 0≤i∧i≤1114111 then some (.str [i.toNat],g) else none
  | _,_ => none
set_option tactic.hygienic true in
theorem chr_ok : ju C A fm (.builtin "chr") [] chrF := by
  intro args g v g' hf μ loc s vals kvals R hv hkw
  apply gen4 (x := vals) (y := kvals) (z := v) (w := g'); intro G hG
  unfold chrF at hf
  split at hf
  · split at hf
    · rename_i hz
      injection hf
      obtain ⟨x,rfl,rfl,ra⟩ := hv.split1 hkw
      injection ra
      refine hG _ _ _ _ ?_
      exact chr_of_range hz.1 hz.2 (Post.tok R (.str [_] _))
    · injection hf
  · injection hf
noncomputable def zk1 : LF
  | [.str l],g => if l.length≤szL then some (.ref g.length,g++[.lst (l.map fun c => .str [c])]) else none
  | _,_ => none
set_option tactic.hygienic true in
theorem list_ok (hh : A.handled = none) : ju C A fm (.type "list") [] zk1 := by
  intro args g v g' hf μ loc s vals kvals R hv hkw
  apply gen4 (x := vals) (y := kvals) (z := v) (w := g'); intro G hG
  unfold zk1 at hf
  split at hf
  · rename_i l
    split at hf
    · rename_i hz
      injection hf
      obtain ⟨x,rfl,rfl,ra⟩ := hv.split1 hkw
      injection ra
      refine hG _ _ _ _ ?_
      refine call_list_str hh _ _ (fun h' tk acc c hk ho hacc => ?_) (by unfold szL at hz; rw [sizeLine_eq]; simpa using hz)
      obtain ⟨R',S'⟩ := R.newObj (tk := tk) (o := .lst (l.map fun c => .str [c])) hk (qz _) ho (.lst (by
        refine ⟨by simpa using hacc.1.symm,fun j v x hv hx => ?_⟩
        obtain ⟨c,u,hc,rfl⟩ := hacc.2 j x (by simpa using hx)
        simp at hv hc
        obtain ⟨c',hc',rfl⟩ := hv
        rw [hc] at hc'; injection hc'
        exact .str [c] u))
      refine ⟨_,_,_,rfl,S',R',.ref ?_⟩
      rw [← R.len,List.getElem?_append_right (Nat.le_refl _)]; simp
    · injection hf
  · injection hf
noncomputable def sumF : LF
  | [.ref i],g => (jf g i).map fun ns => (.int ns.sum,g)
  | _,_ => none
set_option tactic.hygienic true in
theorem sum_ok (hh : A.handled = none) : ju C A fm (.builtin "sum") [] sumF := by
  intro args g v g' hf μ loc s vals kvals R hv hkw
  apply gen4 (x := vals) (y := kvals) (z := v) (w := g'); intro G hG
  unfold sumF at hf
  split at hf
  · rename_i i
    cases q : jf g i with
    | none => rw [q] at hf; injection hf
    | some ns =>
      rw [q] at hf; injection hf
      obtain ⟨x,rfl,rfl,ra⟩ := hv.split1 hkw
      refine VR.inv ra fun _ hi => ?_
      obtain ⟨vals,n,e1,hints,_,_⟩ := v6 R q hi
      obtain ⟨xs,hx⟩ := hints.allInts.items
      have hl' : s.heap.IsList _ (intItems xs) := ⟨_,e1,rfl,n,by rw [← hx]⟩
      refine hG _ _ _ _ ?_
      refine sum_intListG hh hl' fun h' tk t' hk => ?_
      have e1 : ns = xs.toList.map (·.1) := by
        rw [← nums_intItems,← hx]
        exact (show numsOf vals.toList = ns from hints.numsOf).symm
      have e2 : preSum (numAt xs) xs.size = ns.sum := by
        rw [preSum_eq,List.take_of_length_le (by simp),e1]
      rw [e2]
      exact ⟨μ,h',tk,rfl,.ext' hk,R.ext hk,.int _ _⟩
  · injection hf
noncomputable def maxL : List Int→Int
  | [] => 0
  | x :: xs => xs.foldl max x
theorem zkz : ∀ {ns : List Int} {M : Int},M ∈ ns→(∀ a ∈ ns,a≤M)→maxL ns = M
  | x :: xs,M,hm,hle => by
    have key : ∀ (l : List Int) (b : Int),b≤M→(∀ a ∈ l,a≤M)→(b = M∨M ∈ l)→l.foldl max b = M := by
      intro l
      induction l with
      | nil => intro b _ _ h; rcases h with h | h; exact h; injection h
      | cons y l ih =>
        intro b hb hl h
        rw [List.foldl_cons]
        have hy := hl y (List.mem_cons_self ..)
        refine ih (max b y) (o442 hb hy) (fun a ha => hl a (List.mem_cons_of_mem _ ha)) ?_
        rcases h with h | h
        · left; exact o443 hy h
        · rcases List.mem_cons.mp h with h | h
          · left; exact o444 hb h
          · right; exact h
    refine key xs x (hle x (List.mem_cons_self ..)) (fun a ha => hle a (List.mem_cons_of_mem _ ha)) ?_
    rcases List.mem_cons.mp hm with h | h
    · exact .inl h.symm
    · exact .inr h
noncomputable def maxF : LF
  | [.ref i],g => match jf g i with
    | some (n :: ns) => some (.int (maxL (n :: ns)),g)
    | _ => none
  | _,_ => none
set_option tactic.hygienic true in
theorem zin (hh : A.handled = none) : ju C A fm (.builtin "max") [] maxF := by
  intro args g v g' hf μ loc s vals kvals R hv hkw
  apply gen4 (x := vals) (y := kvals) (z := v) (w := g'); intro G hG
  unfold maxF at hf
  split at hf
  · rename_i i
    split at hf
    · rename_i n0 ns q
      injection hf
      obtain ⟨x,rfl,rfl,ra⟩ := hv.split1 hkw
      refine VR.inv ra fun _ hi => ?_
      obtain ⟨vals,n,e1,hints,hlen,_⟩ := v6 R q hi
      obtain ⟨xs,hx⟩ := hints.allInts.items
      have hl' : s.heap.IsList _ (intItems xs) := ⟨_,e1,rfl,n,by rw [← hx]⟩
      have hns : n0 :: ns = xs.toList.map (·.1) := by
        rw [← nums_intItems,← hx]
        exact (show numsOf vals.toList = n0 :: ns from hints.numsOf).symm
      have hsz : 0 < xs.size := by
        have := congrArg List.length hns; simp at this; exact o445 this
      refine hG _ _ _ _ ?_
      refine max_intList hh hl' hsz fun v h' tk hv hk => ?_
      obtain ⟨t,rfl⟩ := intItems_at hv
      obtain ⟨h1,h2⟩ := argBest_gt (numAt xs) (xs.size - 1)
      have hM : maxL (n0 :: ns) = numAt xs (argBest (fun i j => decide (numAt xs i > numAt xs j)) (xs.size - 1)) := by
        have hat : ∀ i,i < xs.size→(n0 :: ns)[i]? = some (numAt xs i) := fun i hi => by
          rw [hns]; simp [numAt,hi]
        refine zkz ?_ fun a ha => ?_
        · exact List.mem_of_getElem? (hat _ (by exact o446 hsz h1))
        · obtain ⟨j,hj,rfl⟩ := List.mem_iff_getElem.mp ha
          have hjl : j < xs.size := by have := congrArg List.length hns; simp only [List.length_map,Array.length_toList] at this; exact o447 hj this
          have := hat j hjl
          rw [List.getElem?_eq_getElem hj] at this
          rw [Option.some.inj this]
          exact h2 j (o448 hsz hjl)
      rw [hM]
      exact ⟨μ,h',tk,rfl,.ext' hk,R.ext hk,.int _ _⟩
    · injection hf
  · injection hf
noncomputable def zcc : LF
  | [.ref i,.int k],g => (jf g i).map fun ns => (.int (ns.count k : Nat),g)
  | _,_ => none
set_option tactic.hygienic true in
theorem count_ok : ju C A fm (.builtin "list.count") [] zcc := by
  intro args g v g' hf μ loc s vals kvals R hv hkw
  apply gen4 (x := vals) (y := kvals) (z := v) (w := g'); intro G hG
  unfold zcc at hf
  split at hf
  · rename_i i k
    cases q : jf g i with
    | none => rw [q] at hf; injection hf
    | some ns =>
      rw [q] at hf; injection hf
      obtain ⟨x,y,rfl,rfl,ra,rb⟩ := hv.split2 hkw
      injection rb
      refine VR.inv ra fun _ hi => ?_
      obtain ⟨vals,n,e1,hints,_,_⟩ := v6 R q hi
      refine hG _ _ _ _ ?_
      exact count_list_ints (vs := vals.toList) ⟨_,e1,rfl,n,by simp⟩ hints (Post.tok R (.int _ _))
  · injection hf
noncomputable def zj6 : LF
  | [.bytes _],g => some (.typ "bytes",g)
  | [.bool _],g => some (.typ "bool",g)
  | _,_ => none
theorem zgx : ju C A fm (.type "type") [] zj6 := by
  intro args g v g' hf μ loc s vals kvals R hv hkw
  apply gen4 (x := vals) (y := kvals) (z := v) (w := g'); intro G hG
  unfold zj6 at hf
  split at hf
  · injection hf
    obtain ⟨x,rfl,rfl,ra⟩ := hv.split1 hkw
    injection ra
    refine hG _ _ _ _ ?_
    exact call_type_of (PySem.W.typeIs_bytes _ _ _) (by decide) (Post.same R (.typ _))
  · injection hf
    obtain ⟨x,rfl,rfl,ra⟩ := hv.split1 hkw
    injection ra
    refine hG _ _ _ _ ?_
    exact call_type_of (PySem.typeIs_bool _ _) (by decide) (Post.same R (.typ _))
  · injection hf
noncomputable def zg1 : List V→Option (List (List Nat))
  | [] => some []
  | .str l :: r => (zg1 r).map (l :: ·)
  | _ => none
theorem zfo {h : Heap} {μ : List Addr} : ∀ {vs : List V} {ls : List (List Nat)} {items : List Value},zg1 vs = some ls→VRs h μ vs items→∃ l : List (Str × Tok),items = strValues l∧l.map (·.1) = ls.map fun x => (⟨x.toArray⟩ : Str)
  | [],ls,items,e,r => by
    injection e
    have : items = [] := List.length_eq_zero_iff.mp r.1.symm
    subst this; exact ⟨[],rfl,rfl⟩
  | .str i :: vs,ls,items,e,r => by
    unfold zg1 at e
    cases q : zg1 vs with
    | none => rw [q] at e; injection e
    | some ms =>
      rw [q] at e; injection e
      cases items with
      | nil => have := r.1; simp at this
      | cons x items =>
        obtain ⟨r1,r2⟩ := r.uncons
        injection r1
        obtain ⟨l,rfl,e2⟩ := zfo q r2
        exact ⟨(⟨i.toArray⟩,_) :: l,rfl,by simp [e2]⟩
noncomputable def zhr : LF
  | [.str [],.ref i],g => match g[i]? with
    | some (.lst xs) => match zg1 xs with
      | some ls => if ls.flatten.length≤1000000 then some (.str ls.flatten,g) else none
      | none => none
    | _ => none
  | _,_ => none
theorem bytesOfInts (ns : List Int) : byteArr ns = (ns.map fun n => n.toNat.toUInt8).toArray := rfl
noncomputable def kz : LF
  | [.ref i],g => match jf g i with
    | some ns => if ns.all (fun n => decide (0≤n) && decide (n < 256)) then some (.bytes (ns.map fun n => n.toNat.toUInt8),g) else none
    | none => none
  | _,_ => none
set_option tactic.hygienic true in
theorem yb (hh : A.handled = none) : ju C A fm (.type "bytes") [] kz := by
  intro args g v g' hf μ loc s vals kvals R hv hkw
  apply gen4 (x := vals) (y := kvals) (z := v) (w := g'); intro G hG
  unfold kz at hf
  split at hf
  · rename_i i
    split at hf
    · rename_i ns q
      split at hf
      · rename_i hr
        injection hf
        obtain ⟨x,rfl,rfl,ra⟩ := hv.split1 hkw
        refine VR.inv ra fun _ hi => ?_
        obtain ⟨vals,n,e1,hints,hlen,hz⟩ := v6 R q hi
        refine hG _ _ _ _ ?_
        refine call_bytes_ints (vs := vals.toList) ⟨_,e1,rfl,n,by simp⟩ hints (fun n hn => by have := List.all_eq_true.mp hr n hn; simpa using this) (by rw [sizeLine_eq]; simpa using hz) hh fun h' t k hk => ?_
        exact ⟨μ,h',k,rfl,.ext' hk,R.ext hk,.bytes _ _⟩
      · injection hf
    · injection hf
  · injection hf
end
end Mine
end
section
namespace Mine
open PySem PyProof.Rows PySem.SeqAt
noncomputable def binG (o : List LObj→V→V→Option (V × List LObj)) (f h : LM V) : LM V := zw f fun a => zw h fun b => fun st => match o st.g a b with
  | some (v,g') => some (v,{ st with g := g' })
  | none => none
noncomputable def unG (o : List LObj→V→Option (V × List LObj)) (f : LM V) : LM V := zw f fun a => fun st => match o st.g a with
  | some (v,g') => some (v,{ st with g := g' })
  | none => none
noncomputable def zfj (g : List LObj) : V→V→Option (V × List LObj)
  | .str l,.int k => if 0≤k∧k≤l.length∧l.length≤szL then some (.str (l.take k.toNat),g) else none
  | _,_ => none
noncomputable def revV (g : List LObj) : V→Option (V × List LObj)
  | .ref i => match g[i]? with
    | some (.lst xs) => if xs.length≤szL then some (.ref g.length,g++[.lst xs.reverse]) else none
    | _ => none
  | _ => none
noncomputable def catV (g : List LObj) : V→V→Option (V × List LObj)
  | .ref i,.ref j => match g[i]?,g[j]? with
    | some (.lst xs),some (.lst ys) => if xs.length + ys.length≤szL then some (.ref g.length,g++[.lst (xs++ys)]) else none
    | _,_ => none
  | _,_ => none
set_option tactic.hygienic true in
theorem VRs.take {h : Heap} {μ : List Addr} {xs : List V} {vals : List Value} (H : VRs h μ xs vals) (k : Nat) : VRs h μ (xs.take k) (vals.take k) := by
  refine ⟨by simp [H.1],fun i u y e e' => ?_⟩
  rw [List.getElem?_take] at e e'
  split at e
  · rename_i hlt; rw [if_pos hlt] at e'; exact H.2 _ u y e e'
  · injection e
theorem VRs.rev {h : Heap} {μ : List Addr} {xs : List V} {vals : List Value} (H : VRs h μ xs vals) : VRs h μ xs.reverse vals.reverse := by
  refine ⟨by simp [H.1],fun i u y e e' => ?_⟩
  have h1 := (List.getElem?_eq_some_iff.mp e).1
  have h2 := (List.getElem?_eq_some_iff.mp e').1
  simp at h1 h2
  rw [List.getElem?_reverse h1] at e
  rw [List.getElem?_reverse h2,← H.1] at e'
  exact H.2 _ u y e e'
section
variable {C : Cx} {A : Around} {fm : Fm}
set_option tactic.hygienic true in
theorem zgh {o : List LObj→V→V→Option (V × List LObj)} {f h : LM V} {st : St} {v : V} {st' : St} (hf : binG o f h st = some (v,st')) :
    ∃ a st₁ b loc g g',f st = some (a,st₁)∧h st₁ = some (b,⟨loc,g⟩)∧o g a b = some (v,g')∧st' = ⟨loc,g'⟩ := by
  obtain ⟨a,st₁,h1,hf⟩ := zk hf
  obtain ⟨b,st₂,h2,hf⟩ := zk hf
  split at hf
  · rename_i q; injection hf; exact ⟨a,st₁,b,st₂.loc,st₂.g,_,h1,h2,q,rfl⟩
  · injection hf
set_option tactic.hygienic true in
theorem unG_some {o : List LObj→V→Option (V × List LObj)} {f : LM V} {st : St} {v : V} {st' : St} (hf : unG o f st = some (v,st')) :
    ∃ a loc g g',f st = some (a,⟨loc,g⟩)∧o g a = some (v,g')∧st' = ⟨loc,g'⟩ := by
  obtain ⟨a,st₁,h1,hf⟩ := zk hf
  split at hf
  · rename_i q; injection hf; exact ⟨a,st₁.loc,st₁.g,_,h1,q,rfl⟩
  · injection hf
theorem zct (l : List Nat) (k : Int) (h0 : 0≤k) (h1 : k≤l.length) : Txt.slice ⟨l.toArray⟩ none (some k) = ⟨(l.take k.toNat).toArray⟩ := by
  have := StrLaws.sliceText_to (x := ⟨l.toArray⟩) (j := k) ⟨h0,by simpa using h1⟩
  have e : Txt.slice ⟨l.toArray⟩ none (some k) = StrLaws.sliceText ⟨l.toArray⟩ none (some k) := rfl
  rw [e,this]; simp
theorem Rel.newList2 {μ : List Addr} {st : St} {s : Shared} {ob : Obj} {xs : List V} {vals : Array Value} {tk : Nat} (R : Rel C fm μ st s) (hv : VRs s.heap μ xs vals.toList) :
    Post C fm VR μ s (.ref st.g.length) { st with g := st.g++[.lst xs] } (.ref (s.heap.objs.size + 1)) { s with heap := (s.heap.push ob).push (lstO vals 0),toks := tk } := by
  have k1 : ∀ b o,s.heap.get? b = some o→(s.heap.push ob).get? b = some o := fun b o e => Heap.get?_push_of_some _ e
  have k2 : ∀ b o,s.heap.get? b = some o→((s.heap.push ob).push (lstO vals 0)).get? b = some o := fun b o e => Heap.get?_push_of_some _ (k1 b o e)
  have hsz : (s.heap.push ob).objs.size = s.heap.objs.size + 1 := Heap.size_push _ _
  have hn : s.heap.get? (s.heap.objs.size + 1) = none := Heap.get?_none_of_le (o449)
  have ho : ((s.heap.push ob).push (lstO vals 0)).get? (s.heap.objs.size + 1) = some (lstO vals 0) := by rw [← hsz]; exact Heap.get?_push_size _ rfl
  obtain ⟨R',S'⟩ := R.newObj (tk := tk) k2 hn ho (.lst hv)
  refine ⟨_,_,_,rfl,S',R',.ref ?_⟩
  rw [← R.len,List.getElem?_append_right (Nat.le_refl _)]; simp
set_option tactic.hygienic true in
theorem zki {v u : Expr} {p pos : Pos} {f h : LM V} (hv : Snd C A fm VR (eval v fm.env) f) (hu : Snd C A fm VR (eval u fm.env) h)
    (ht : ∀ o r,letTemporaryGo v o r = pure () := by intro _ _; rfl) : Snd C A fm VR (eval (.Subscript v (.Slice none (some u) none p) pos) fm.env) (binG zfj f h) := by
  intro st w st' hf μ s R
  apply gen2 (x := w) (y := st'); intro G hG
  obtain ⟨a,st₁,b,loc,g,g',h1,h2,ho,rfl⟩ := zgh hf
  unfold zfj at ho
  split at ho
  · rename_i l k
    split at ho
    · rename_i hz
      injection ho
      refine hG _ _ ?_
      refine wpAny_Subscript_Slice (T := "str") F.slot_str_getitem.lookup (zo (hv _ _ _ h1 μ s R) fun x μ₁ h₁ tk₁ S₁ R₁ ra => wpAny_Slice (wpAny_pure (zo (hu _ _ _ h2 μ₁ _ R₁) fun y μ₂ h₂ tk₂ S₂ R₂ rb => wpAny_pure ?_))) ht
      injection ra; injection rb
      have hsz := hz.2.2
      unfold szL at hsz
      have hk : ∀ (ob : Obj) b o,h₂.get? b = some o→(h₂.push ob).get? b = some o := fun ob b o e => Heap.get?_push_of_some _ e
      refine ⟨typeIs_str _ _ _,wpAny_getItem_str_slice (l := none) (u := some (k,_)) (st := none) ⟨_,Heap.get?_push_size _ rfl,rfl,rfl⟩ rfl
        (post_val_or_str ⟨Nat.le_trans (Txt.slice_le ⟨l.toArray⟩ none (some k)) (by rw [sizeLine_eq]; simpa [Str.length] using hsz),fun t' kk => ?_⟩)⟩
      show Post C fm VR μ s (.str (l.take k.toNat)) ⟨loc,g⟩ (.str (Txt.slice ⟨l.toArray⟩ none (some k)) t') _
      rw [zct l k hz.1 hz.2.1]
      exact ⟨μ₂,_,kk,rfl,S₁.trans (S₂.trans (.ext' (hk _))),R₂.ext (hk _),.str _ _⟩
    · injection ho
  · injection ho
set_option tactic.hygienic true in
theorem snd_rev {v st : Expr} {p pos : Pos} {f : LM V} (hv : Snd C A fm VR (eval v fm.env) f) (hs : ∀ s,∃ t tk,∀ (Q : Value→Shared→Prop),Q (.int (-1) t) { s with toks := tk }→wpAny C.M A (eval st fm.env) Q NoE s)
    (ht : ∀ o r,letTemporaryGo v o r = pure () := by intro _ _; rfl) : Snd C A fm VR (eval (.Subscript v (.Slice none none (some st) p) pos) fm.env) (unG revV f) := by
  intro st0 w st' hf μ s R
  obtain ⟨a,loc,g,g',h1,ho,rfl⟩ := unG_some hf
  refine wpAny_Subscript_Slice_step (T := "list") list_getitem_lookup (zo (hv _ _ _ h1 μ s R) fun x μ₁ h₁ tk₁ S₁ R₁ ra => wpAny_Slice (wpAny_pure (wpAny_pure ?_))) ht
  obtain ⟨t,tk,hst⟩ := hs { s with heap := h₁,toks := tk₁ }
  refine hst _ ?_
  unfold revV at ho
  split at ho
  · refine VR.inv ra fun _ hi => ?_
    split at ho
    · rename_i xs hg
      split at ho
      · rename_i hz
        injection ho
        obtain ⟨vals,n,e1,r1⟩ := VRs.isList R₁ hg hi
        have z1 := r1.1
        simp only [Array.length_toList] at z1
        unfold szL at hz
        have hl : h₁.IsList _ vals := ⟨_,e1,rfl,_,rfl⟩
        refine ⟨(hl.push _).typeIs,wpAny_getItem_list_slice (hl.push _) (Heap.IsSliceOf.new ..) .none .none (.int (-1) t) (by simp) ?_ (by rw [sizeLine_eq]; exact o418 hz z1)⟩
        rw [PySem.W.krv_pick,Heap.size_push]
        exact Post.then rfl S₁ (Rel.newList2 (tk := tk) R₁ (by simpa using r1.rev))
      · injection ho
    · injection ho
  · injection ho
set_option tactic.hygienic true in
theorem snd_cat {l r : Expr} {pos : Pos} {f h : LM V} (K : FmOk fm) (hl : Snd C A fm VR (eval l fm.env) f) (hr : Snd C A fm VR (eval r fm.env) h) : Snd C A fm VR (eval (.BinOp l .Add r pos) fm.env) (binG catV f h) := by
  intro st w st' hf μ s R
  apply gen2 (x := w) (y := st'); intro G hG
  obtain ⟨a,st₁,b,loc,g,g',h1,h2,ho,rfl⟩ := zgh hf
  refine hG _ _ ?_
  refine wpAny_BinOp (zo (hl _ _ _ h1 μ s R) fun x μ₁ h₁ tk₁ S₁ R₁ ra => zo (hr _ _ _ h2 μ₁ _ R₁) fun y μ₂ h₂ tk₂ S₂ R₂ rb => ?_)
  have ra2 := ra.step R₁ K S₂
  clear ra
  unfold catV at ho
  split at ho
  · cases ra2 with | ref hi => cases rb with | ref hj =>
    split at ho
    · rename_i xs ys hg hg'
      split at ho
      · rename_i hz
        cases ho
        obtain ⟨vals,n,e1,r1⟩ := VRs.isList R₂ hg hi
        obtain ⟨vals',n',e1',r1'⟩ := VRs.isList R₂ hg' hj
        have z1 := r1.1
        have z1' := r1'.1
        simp only [Array.length_toList] at z1 z1'
        unfold szL at hz
        have hk : ∀ (ob : Obj) b o,h₂.get? b = some o→(h₂.push ob).get? b = some o := fun ob b o e => Heap.get?_push_of_some _ e
        refine P.add_list e1 e1' ?_ (by rw [sizeLine_eq]; exact o451 hz z1 z1')
        obtain ⟨R',S'⟩ := R₂.newObj (tk := tk₂) (o := .lst (xs++ys)) (hk (lstO (vals++vals') 0)) (qz _) (Heap.get?_push_size _ rfl) (.lst (by simpa using r1.append r1'))
        refine Post.then rfl S₁ (Post.then rfl S₂ ⟨_,_,_,rfl,S',R',.ref ?_⟩)
        rw [← R₂.len,List.getElem?_append_right (Nat.le_refl _)]; simp
      · injection ho
    · injection ho
  · injection ho
end
end Mine
end
section
namespace Mine
open PySem PyProof.Rows PySem.SeqAt
theorem y6 : ∀ ls : List (List Nat),Str.join ⟨#[]⟩ (ls.map fun x => (⟨x.toArray⟩ : Str)) = ⟨ls.flatten.toArray⟩
  | [] => rfl
  | [x] => by simp [Str.join]
  | x :: y :: r => by
    have ih := y6 (y :: r)
    simp only [List.map_cons] at ih ⊢
    rw [show Str.join ⟨#[]⟩ ((⟨x.toArray⟩ : Str) :: (⟨y.toArray⟩ : Str) :: List.map (fun x => (⟨x.toArray⟩ : Str)) r) = ⟨x.toArray⟩++⟨#[]⟩++Str.join ⟨#[]⟩ ((⟨y.toArray⟩ : Str) :: List.map (fun x => (⟨x.toArray⟩ : Str)) r) from rfl,ih]
    show (⟨x.toArray++#[]++_⟩ : Str) = _
    simp
section
variable {C : Cx} {A : Around} {fm : Fm}
set_option tactic.hygienic true in
theorem zhp : ju C A fm (.builtin "str.join") [] zhr := by
  intro args g v g' hf μ loc s vals kvals R hv hkw
  apply gen4 (x := vals) (y := kvals) (z := v) (w := g'); intro G hG
  unfold zhr at hf
  split at hf
  · rename_i i
    split at hf
    · rename_i xs hg
      split at hf
      · rename_i ls q
        split at hf
        · rename_i hz
          injection hf
          obtain ⟨x,y,rfl,rfl,ra,rb⟩ := hv.split2 hkw
          injection ra
          refine VR.inv rb fun _ hi => ?_
          obtain ⟨vals,n,e1,r1⟩ := VRs.isList R hg hi
          obtain ⟨l,e2,e3⟩ := zfo q r1
          have hl : s.heap.IsList _ (strValues l).toArray := ⟨_,e1,rfl,n,by rw [← e2]⟩
          have hsum : ((ls.map fun x => (⟨x.toArray⟩ : Str)).map (·.length)).sum = ls.flatten.length := by
            rw [List.length_flatten,List.map_map]; rfl
          refine hG _ _ _ _ ?_
          refine SC.join hl e3 ?_ fun t' k => ?_
          · unfold JoinOk
            rw [Bool.not_eq_true',StrLaws.joinTotal,hsum]
            unfold Builtin.Str.tooLong
            rw [sizeLine_eq]
            show decide _ = false
            refine decide_eq_false ?_
            show ¬ 16777216 < ls.flatten.length + (ls.map _).length * 0
            exact o452 hz hsum
          · have : Txt.join ⟨([] : List Nat).toArray⟩ (ls.map fun x => (⟨x.toArray⟩ : Str)) = ⟨ls.flatten.toArray⟩ := (StrLaws.glued_eq_join _ _).trans (y6 ls)
            rw [this]
            exact Post.tok R (.str _ _)
        · injection hf
      · injection hf
    · injection hf
  · injection hf
noncomputable def zb5 : LF
  | [.ref i,.int k],g => match jf g i with
    | some ns => if k ∈ ns then some (.int (ns.idxOf k : Nat),g) else none
    | none => none
  | _,_ => none
set_option tactic.hygienic true in
theorem index_ok : ju C A fm (.builtin "list.index") [] zb5 := by
  intro args g v g' hf μ loc s vals kvals R hv hkw
  apply gen4 (x := vals) (y := kvals) (z := v) (w := g'); intro G hG
  unfold zb5 at hf
  split at hf
  · rename_i i k
    split at hf
    · rename_i ns q
      split at hf
      · rename_i hz
        injection hf
        obtain ⟨x,y,rfl,rfl,ra,rb⟩ := hv.split2 hkw
        injection rb
        refine VR.inv ra fun _ hi => ?_
        obtain ⟨vals,n,e1,hints,hlen,hsz⟩ := v6 R q hi
        have hj : ns.idxOf k < ns.length := List.idxOf_lt_length_iff.mpr hz
        refine hG _ _ _ _ ?_
        refine call_meets PySem.F.slot_list_index ⟨_,e1,rfl⟩ PySem.F.entry_list_index (PySem.F.args_list_index_2 _ _)
          (list_indexAt _ vals n _ _ (.int k _) (isInt k) (ns.idxOf k) (o51 hlen hj) (by omega) ?_ ?_) ⟨e1,fun y hy => (eq_isInt k _ hints y (by simpa using hy)).at _ _,Post.tok R (.int _ _)⟩
        · show isInt k vals[ns.idxOf k] = true
          have := isInt_at k hints (ns.idxOf k) (by simp; exact o51 hlen hj) hj
          simp only [Array.getElem_toList] at this
          rw [this]
          simpa using List.getElem_idxOf hj
        · intro j hjs hlt
          show isInt k vals[j] = false
          have := isInt_at k hints j (by simpa using hjs) (o83 hlen hjs)
          simp only [Array.getElem_toList] at this
          rw [this]
          exact ne_of_lt_idxOf hlt _
      · injection hf
    · injection hf
  · injection hf
theorem zev {P : Shared→Prop} (hP : ∀ s tk,P s→P { s with toks := tk }) {prog : Program} {w : World} {A : Around} {E : Value→Shared→Prop} {x : Value} {Tx : String} {tp : Addr} {cs : List Value} {n : Nat} {vs : List Bool} {tk : Tok} {s : Shared} {Q : Fin→Shared→Prop}
    (hx : s.TypeIs x Tx) (htp : s.heap.get? tp = some { cls := .type "tuple",data := .seq cs.toArray n }) (ha : AnswersAll P x cs vs) (hs : P s)
    (hq : ∀ tk',Q (.done (.ret (.bool (vs.any id)))) { s with toks := tk' }) : wpAny (model prog w) A (Builtin.«isinstance.nested» ⟨[x,.ref tp,.int 0 tk],[]⟩) Q E s := by
  obtain ⟨h,g,d,t,os⟩ := s
  have hT2 : (⟨h,g,d,t,os⟩ : Shared).TypeIs (.ref tp) "tuple" := ⟨_,htp,rfl⟩
  have f1 := F.isi_sub_tuple
  repeat (any_goals (first | assumption | wp_step))
  refine wpAny_arrayLoop ?_
  simp only [Option.getD_some,List.toList_toArray]
  refine isinstance_items (dep := 0) hP cs vs _ _ ha hs fun tk' => ?_
  cases hv : vs.any id with
  | true =>
    simp only [if_true]
    repeat (any_goals (first | assumption | wp_step))
    exact hv ▸ hq tk'
  | false =>
    simp only [Bool.false_eq_true,if_false]
    repeat (any_goals (first | assumption | wp_step))
    exact hv ▸ hq tk'
theorem zgy : typeOf (.type "str") = pure (.type "type") := by kernel_rfl
theorem yv : typeOf (.type "bytes") = pure (.type "type") := by kernel_rfl
theorem ul : typeOf (.type "bytearray") = pure (.type "type") := by kernel_rfl
theorem zcs : isSubtype (.type "bytes") (.type "str") = pure false := by rw [isSubtype_type]; kernel_rfl
theorem yd : isSubtype (.type "bytes") (.type "bytearray") = pure false := by rw [isSubtype_type]; kernel_rfl
theorem zau : isSubtype (.type "bytes") (.type "bytes") = pure true := by rw [isSubtype_type]; kernel_rfl
theorem Answers.of_false_bytes {x : Array UInt8} {u : Tok} {T : String} (hne : (Value.type "bytes" == Value.type T) = false) (hty : typeOf (.type T) = pure (.type "type")) (hsub : isSubtype (.type "bytes") (.type T) = pure false) :
    Answers (fun s => s.TypeIs (.bytes x u) "bytes") (.bytes x u) (.type T) false :=
  fun _ _ _ _ _ _ s hs => by
    obtain ⟨h,g,d,t,os⟩ := s
    exact isinstance_nested_false_bytes hne hty hsub (hs.2 (t + 1))
noncomputable def tyIs : V→String→Bool
  | .typ s,t => s == t
  | _,_ => false
noncomputable def tysOk : List V→Bool
  | [a,b] => tyIs a "bytes" && tyIs b "bytearray"
  | _ => false
noncomputable def isiT : V→Option Bool
  | .typ s => if s = "str" then some false else none
  | .tup vs => if tysOk vs then some true else none
  | _ => none
noncomputable def isiF : LF
  | [.bytes _,v],g => (isiT v).map fun b => (.bool b,g)
  | _,_ => none
theorem zj7 {v : V} {t : String} (h : tyIs v t = true) : v = .typ t := by
  unfold tyIs at h
  split at h
  · rw [beq_iff_eq.mp h]
  · cases h
theorem tysOk_eq {vs : List V} (h : tysOk vs = true) : vs = [.typ "bytes",.typ "bytearray"] := by
  unfold tysOk at h
  split at h
  · rw [zj7 (Bool.and_eq_true_iff.mp h).1,zj7 (Bool.and_eq_true_iff.mp h).2]
  · cases h
theorem two {α : Type} (l : List α) (h : l.length = 2) : ∃ a b,l = [a,b] := by
  cases l with
  | nil => cases h
  | cons a l => cases l with
    | nil => cases h
    | cons b l => exact ⟨a,b,by rw [List.length_eq_zero_iff.mp (Nat.succ.inj (Nat.succ.inj h))]⟩
set_option tactic.hygienic true in
theorem isi_ok : ju C A fm (.builtin "isinstance") [] isiF := by
  intro args g v g' hf μ loc s vals kvals R hv hkw
  apply gen4 (x := vals) (y := kvals) (z := v) (w := g'); intro G hG
  unfold isiF at hf
  split at hf
  · obtain ⟨c,h1,h2⟩ := Option.map_eq_some_iff.mp hf
    cases h2
    obtain ⟨x,y,rfl,rfl,ra,rb⟩ := hv.split2 hkw
    unfold isiT at h1
    split at h1
    · split at h1
      · rename_i hs
        subst hs
        refine si h1 (ra.inv fun _ => rb.inv fun _ => ?_)
        refine hG _ _ _ _ ?_
        exact call_function_meets (by decide +kernel) (by decide +kernel) F.entry_isinstance (by unfold argsOk; kernel_rfl)
          (fun _ _ _ _ s hs => isinstance_outer (Answers.of_false_bytes (by decide) zgy zcs 0 _ _ _ _ _ s hs) (Shared.TypeIs.not_mainsLoader hs.1)) ⟨PySem.W.typeIs_bytes _ _ _,fun tk => Post.tok R (.bool _)⟩
      · exact ns h1
    · split at h1
      · rename_i hs
        rw [tysOk_eq hs] at rb
        refine si h1 (ra.inv fun _ => rb.inv fun arr n r hr hl hit => ?_)
        have e : arr = #[.type "bytes",.type "bytearray"] := by
          obtain ⟨l⟩ := arr
          obtain ⟨a,b,rfl⟩ := two l hl.symm
          exact VR.inv (G := fun a => (⟨[a,b]⟩ : Array Value) = _) (hit 0 _ a rfl rfl) fun _ => VR.inv (G := fun b => (⟨[_,b]⟩ : Array Value) = _) (hit 1 _ b rfl rfl) fun _ => rfl
        subst e
        refine hG _ _ _ _ ?_
        exact call_function_meets (by decide +kernel) (by decide +kernel) F.entry_isinstance (by unfold argsOk; kernel_rfl)
          (S := fun _ R s => s.TypeIs (.bytes _ _) "bytes"∧s.heap.get? r = some { cls := .type "tuple",data := .seq [Value.type "bytes",.type "bytearray"].toArray n }∧∀ tk,R (.ok (.ret (.bool ([true,false].any id)))) { s with toks := tk })
          (fun _ _ _ _ s hs => isinstance_outer (zev (vs := [true,false]) (fun _ tk h => h.toks tk) hs.1 hs.2.1 ⟨Answers.of_true yv zau,Answers.of_false_bytes (by decide) ul yd,trivial⟩ hs.1 hs.2.2) (Shared.TypeIs.not_mainsLoader hs.1))
          ⟨PySem.W.typeIs_bytes _ _ _,hr,fun tk => Post.tok R (.bool _)⟩
      · exact ns h1
    · exact ns h1
  · exact ns hf
noncomputable def zcm (t : LM Bool) : LM Fl := zw t fun b st => if b then some (.next,st) else none
set_option tactic.hygienic true in
theorem zdf {test : Expr} {msg : Option Expr} {pos : Pos} {t : LM Bool} (ht : Snd C A fm BR (isTrue test fm.env (eval test fm.env)) t) : Snd C A fm FR (exec (.Assert test msg pos) fm.env) (zcm t) := by
  intro st w st' hf μ s R
  apply gen2 (x := w) (y := st'); intro G hG
  obtain ⟨b,st₁,h1,h2⟩ := zk hf
  split at h2
  · rename_i hb
    injection h2
    refine hG _ _ ?_
    refine wpAny_Assert_holds (zo (ht _ _ _ h1 μ s R) fun x μ₁ h₁ tk₁ S₁ R₁ ra => ?_)
    injection ra
    exact ⟨hb,Post.then rfl S₁ (Post.same R₁ .next)⟩
  · injection h2
end
end Mine
end
section
namespace Mine
open PySem PyProof.Rows PySem.SeqAt
noncomputable def idTab : Array UInt8 := (Array.range 256).map (·.toUInt8)
noncomputable def vh (a b : List UInt8) : List UInt8 := ((a.zip b).foldl (fun t (p : UInt8 × UInt8) => t.setIfInBounds p.1.toNat p.2) idTab).toList
theorem kind_mk : builtinKind "bytes.maketrans" = some .staticMethod := by decide +kernel
theorem split_mk : splitId "bytes.maketrans" = some ("bytes", "maketrans") := by decide +kernel
theorem plain_mk : plainId "bytes.maketrans" = true := by decide +kernel
theorem entry_mk : entryFor table "bytes.maketrans" = some Builtin.«bytes.maketrans» := entryFor_of_tree (by kernel_rfl)
theorem args_mk (a b : Value) : argsOk "bytes.maketrans" ⟨[a,b],[]⟩ := by
  unfold argsOk; rw [signature?_of (id := "bytes.maketrans") (n := ['s','n','a','r','t','e','k','a','m']) (o := ['s','e','t','y','b']) (by kernel_rfl) PySem.W.FB.owner_bytes]; kernel_rfl
theorem yh : ∀ (l : List (UInt8 × UInt8)) (t : Array UInt8),(l.foldl (fun t (p : UInt8 × UInt8) => t.setIfInBounds p.1.toNat p.2) t).size = t.size
  | [],t => rfl
  | p :: l,t => by rw [List.foldl_cons,yh l]; simp
theorem zi1 (a b : List UInt8) : (vh a b).length = 256 := by
  unfold vh; rw [Array.length_toList,yh]; simp [idTab]
section
variable {C : Cx} {A : Around} {fm : Fm}
theorem meets_mk {a b : List UInt8} {t u : Tok} (h : a.length = b.length) : Meets (Builtin.«bytes.maketrans» ⟨[.bytes a.toArray t,.bytes b.toArray u],[]⟩) (fun _ R s => R (.ok (.ret (.bytes (vh a b).toArray s.toks))) { s with toks := s.toks + 1 }) := by
  refine .of_wp fun prog w A R s hS => ?_
  show wpAny _ _ (Builtin.Bytes.bytesLike _ (.bytes a.toArray t) >>= fun r => _) _ _ s
  refine wpAny_bind (wpAny_of_eq PySem.W.KBd.like_eq ?_)
  show wpAny _ _ (Builtin.Bytes.bytesLike _ (.bytes b.toArray u) >>= fun r => _) _ _ s
  refine wpAny_bind (wpAny_of_eq PySem.W.KBd.like_eq ?_)
  refine PySem.W.KFB.if_not (by simp [h]) ?_
  refine wpAny_bind (wpAny_mkBytes ?_ (by rw [sizeLine_eq]; have := zi1 a b; show (((a.zip b).foldl (fun t (p : UInt8 × UInt8) => t.setIfInBounds p.1.toNat p.2) idTab)).size≤_; rw [← Array.length_toList]; unfold vh at this; exact o453 this))
  refine wpAny_pure ⟨_,rfl,?_⟩
  unfold vh at hS
  rw [Array.toArray_toList] at hS
  exact hS
noncomputable def kf : LF
  | [.bytes a,.bytes b],g => if a.length = b.length then some (.bytes (vh a b),g) else none
  | _,_ => none
set_option tactic.hygienic true in
theorem zfy : ju C A fm (.builtin "bytes.maketrans") [] kf := by
  intro args g v g' hf μ loc s vals kvals R hv hkw
  apply gen4 (x := vals) (y := kvals) (z := v) (w := g'); intro G hG
  unfold kf at hf
  split at hf
  · rename_i a b
    split at hf
    · rename_i hz
      injection hf
      obtain ⟨x,y,rfl,rfl,ra,rb⟩ := hv.split2 hkw
      cases ra with | bytes _ t =>
      cases rb with | bytes _ u =>
      refine hG _ _ _ _ ?_
      refine wpAny_call (codeAny_call_builtin plain_mk entry_mk ?_)
      have hfin := meets_mk (t := t) (u := u) hz C.prog C.w A (wants (Post C fm VR μ s (.bytes (vh _ _)) ⟨loc,g⟩) NoE) s (Post.tok R (.bytes _ _))
      simp only [checkBuiltinCall,kind_mk,split_mk]
      have ok := args_mk (.bytes a.toArray t) (.bytes b.toArray u)
      cases hsig : Manifest.signature? "bytes.maketrans" with
      | none => exact wpAny_pure hfin
      | some sig =>
        simp only [argsOk,hsig] at ok
        have h2 : Bind.checkArgs "bytes.maketrans" sig ⟨[_,_],[]⟩ = pure () := ok
        show wpAny _ _ (Bind.checkArgs "bytes.maketrans" sig ⟨[_,_],[]⟩) _ _ s
        rw [h2]; exact wpAny_pure hfin
    · injection hf
  · injection hf
theorem zg6 : Slot "bytes" "translate" "bytes.translate" :=
  .of (owner := "bytes") (n := "translate") (by rw [typeLookup_type,builtinLookup_eq_fast]; kernel_rfl) (by decide +kernel) (by decide +kernel) (by decide +kernel)
    (by first | exact .inl (by decide +kernel) | exact .inr (by decide +kernel)) (by rw [isSubtype_type]; kernel_rfl)
theorem zj5 : typeOf (.builtin "bytes.translate") = pure (.type "method_descriptor") := by show builtinType _ = _; rw [builtinType_eq_fast]; kernel_rfl
theorem entry_tr : entryFor table "bytes.translate" = some Builtin.«bytes.translate» := entryFor_of_tree (by kernel_rfl)
theorem args_tr (a b : Value) : argsOk "bytes.translate" ⟨[a,b],[]⟩ := by
  unfold argsOk; rw [signature?_of (id := "bytes.translate") (n := ['e','t','a','l','s','n','a','r','t']) (o := ['s','e','t','y','b']) (by kernel_rfl) PySem.W.FB.owner_bytes]; kernel_rfl
noncomputable def trL (l t : List UInt8) : List UInt8 := l.map fun c => t.getD c.toNat c
set_option tactic.hygienic true in
theorem meets_tr {a b : List UInt8} {t u : Tok} (h : b.length = 256) (hz : a.length≤16777216) : Meets (Builtin.«bytes.translate» ⟨[.bytes a.toArray t,.bytes b.toArray u],[]⟩) (fun _ R s => ∀ tk k,R (.ok (.ret (.bytes (trL a b).toArray tk))) { s with toks := k }) := by
  refine .of_wp fun prog w A R s hS => ?_
  show wpAny _ _ (Builtin.Bytes.bytesLike _ (.bytes b.toArray u) >>= fun r => _) _ _ s
  refine wpAny_bind (wpAny_of_eq PySem.W.KBd.like_eq ?_)
  refine PySem.W.KFB.if_not (by simp [h]) ?_
  have e : ((a.toArray.filter (! (#[] : Array UInt8).contains ·)).map fun c => b.toArray.getD c.toNat c) = (trL a b).toArray := by
    unfold trL
    have : (fun x : UInt8 => ! (#[] : Array UInt8).contains x) = fun _ => true := by funext x; simp
    rw [this]
    simp only [List.filter_toArray,List.filter_eq_self.mpr (fun _ _ => rfl),List.map_toArray]
    simp
  show wpAny _ _ (if (((a.toArray.filter (! (#[] : Array UInt8).contains ·)).map fun c => b.toArray.getD c.toNat c) == a.toArray) = true then _ else _) _ _ s
  rw [e]
  refine wpAny_ite ?_
  split
  · rename_i hq
    have hq' : (trL a b).toArray = a.toArray := by simpa using hq
    refine wpAny_bind (wpAny_rule ?_)
    refine wpAny_bind (wpAny_bind (wpAny_typeOf (PySem.W.typeIs_bytes s _ _) (wpAny_pure ?_)))
    refine wpAny_pure ⟨_,rfl,?_⟩
    rw [hq'] at hS
    exact hS t s.toks
  · refine wpAny_bind (wpAny_mkBytes (wpAny_pure ⟨_,rfl,?_⟩) (by rw [sizeLine_eq]; unfold trL; simpa using hz))
    exact hS _ _
noncomputable def j6 : LF
  | [.bytes a,.bytes b],g => if b.length = 256∧a.length≤szL then some (.bytes (trL a b),g) else none
  | _,_ => none
set_option tactic.hygienic true in
theorem zah : ju C A fm (.builtin "bytes.translate") [] j6 := by
  intro args g v g' hf μ loc s vals kvals R hv hkw
  apply gen4 (x := vals) (y := kvals) (z := v) (w := g'); intro G hG
  unfold j6 at hf
  split at hf
  · split at hf
    · rename_i hz
      injection hf
      obtain ⟨x,y,rfl,rfl,ra,rb⟩ := hv.split2 hkw
      injection ra; injection rb
      refine hG _ _ _ _ ?_
      exact call_meets zg6 (PySem.W.typeIs_bytes _ _ _) entry_tr (args_tr _ _) (meets_tr hz.1 hz.2) fun tk k => Post.tok R (.bytes _ _)
    · injection hf
  · injection hf
theorem getm_mk {pl : Sem Bool} {prog : Program} {w : World} {E : Value→Shared→Prop} {s : Shared} {Q : Value × List Value→Shared→Prop} (h : Q (.builtin "bytes.maketrans",[]) { s with toks := s.toks + 1 }) :
    wpAny (model prog w) A (getMethod (.type "bytes") "maketrans" pl) Q E s := by
  have X : PySem.W.Frag.In [] s.heap := fun a o e => by simp at e
  have hstub : opaqueClassAbove (.type "bytes") = pure none := by unfold opaqueClassAbove; dsimp only; rw [show Manifest.isStub "bytes" = false by decide +kernel]; rfl
  have L0 : PySem.W.Looks (model prog w) s.heap (typeOf (.type "bytes")) (.type "type") := PySem.W.Looks.of_pure yv
  have hg := PySem.W.type_tga
  unfold getMethod specialOf
  refine wpAny_bind (wpAny_bind (L0.here ((PySem.W.looks_findIn X hg).here ?_)))
  dsimp only
  rw [if_pos PySem.W.canon_tga]
  refine wpAny_bind (wpAny_mono (Q := fun v => Q (v,[])) (E := E) ?_ (fun _ _ z => wpAny_pure z) fun _ _ z => z)
  have LO : PySem.W.Looks (model prog w) s.heap (opaqueClassAbove (.type "bytes")) none := PySem.W.Looks.of_pure hstub
  refine PySem.W.cls_open X LO L0 hg (PySem.W.looks_hook X (r := none) (by rfl)) (by show PySem.W.subIn _ _ _ = _; rfl) (r := .val (.builtin "bytes.maketrans")) (by kernel_rfl)
    (wpAny_pure (by show wpAny _ _ (handedOut (.builtin "bytes.maketrans")) _ _ _; rw [PySem.W.handedOut_of (by decide +kernel)]; exact wpAny_pure h))
theorem snd_mk {e : Expr} {rest : List Expr} {p apos pos : Pos} {fs : LM (List V)} (K : FmOk fm) (hm : C.mg "bytes" = none) (hx : fm.env.kindOf "bytes" = some .globalImplicit)
    (hargs : Snd C A fm VRs (spliced (backTo pos (starEach (e :: rest) fm.env))) fs) {pl : Sem Bool}
    (hev : eval (.Call (.Attribute (.Name "bytes" p) "maketrans" apos) (e :: rest) [] pos) fm.env = (do
      let ov ← eval (.Name "bytes" p) fm.env
      standAt apos.atName
      let (f,first) ← holding [ov] (getMethod ov "maketrans" pl)
      callWith pos f first (backTo pos (starEach (e :: rest) fm.env)) []) := by rfl)
    (he : starEach (e :: rest) fm.env = (false,eval e fm.env) :: starEach rest fm.env := by rfl) (hplain : (backTo pos (starEach rest fm.env)).any (·.1) = false := by rfl) :
    Snd C A fm VR (eval (.Call (.Attribute (.Name "bytes" p) "maketrans" apos) (e :: rest) [] pos) fm.env) (zr kf fs) := by
  intro st v st' hf μ s R
  obtain ⟨args,loc,g,g',h1,h2,rfl⟩ := wb hf
  refine MethodCall_ (pl := pl) (zbe K R hm (by rfl) (by decide) ?_ hx) hev
  refine getm_mk (callWith_builtin1 ?_ he hplain)
  refine zo (hargs _ _ _ h1 μ _ (R.toks _)) fun y μ₁ h₁ tk₁ S₁ R₁ ra => ?_
  exact wpAny_mono (zfy args g v g' h2 μ₁ loc _ y [] R₁ ra.nilKw rfl) (fun z s' h => Post.then (h₁ := h₁) (tk₁ := tk₁) rfl S₁ h) fun _ _ e => e
theorem zfr {x kn : Str} {p pos kp : Pos} {f : Addr} {e ke : Expr} {d : Nat} {f1 f2 : LM V} {fl : LF} (K : FmOk fm) (hm : C.mg x = some (.ref f)) (hx : fm.env.kindOf x = some .globalImplicit)
    (h1 : Snd C A fm VRs (spliced (backTo pos (starEach [e] fm.env))) (zl f1 nilL)) (h2 : Snd C A fm VR (eval ke fm.env) f2) (hA : OkA d A) (hc : FnOk C d f [kn] fl)
    (hd : (x == ("__debug__" : Str)) = false := by decide) (he : starEach [e] fm.env = (false,eval e fm.env) :: starEach [] fm.env := by rfl) :
    Snd C A fm VR (eval (.Call (.Name x p) [e] [⟨some kn,ke,kp⟩] pos) fm.env) (zr fl (zl f1 (zl f2 nilL))) := by
  intro st v st' hf μ s R
  apply gen2 (x := v) (y := st'); intro G hG
  obtain ⟨args,loc,g,g',hf1,hf2,rfl⟩ := wb hf
  obtain ⟨⟨fd,hfd⟩,hc⟩ := hc.call
  obtain ⟨o,ho,hdat⟩ := hfd.at'
  obtain ⟨a,st₁,ha,hf1⟩ := zk hf1
  obtain ⟨bs,st₂,hb,hf1⟩ := zk hf1
  cases hf1
  obtain ⟨b,st₃,hb,hf1⟩ := zk hb
  obtain ⟨cs,st₄,hcs,hf1⟩ := zk hf1
  cases hcs
  cases hf1
  refine hG _ _ ?_
  refine wpAny_Call_Name_kw (zdy K R hm (callWith_function_kw (o := o) (fd := fd) ?_) hx hd)
  rw [he]
  refine evalArgs_kw rfl ?_
  have hsp := h1 st [a] st₁ (by unfold zl zw; rw [ha]; rfl) μ s R
  rw [he] at hsp
  refine zo hsp fun y μ₁ h₁ tk₁ S₁ R₁ ra => ?_
  refine wpAny_evalAll_cons (wpAny_bind (zo (h2 _ _ _ hb μ₁ _ R₁) fun z μ₂ h₂ tk₂ S₂ R₂ rb => wpAny_bind (wpAny_standAt (wpAny_pure (wpAny_evalAll_nil ⟨⟨R₂.base _ _ ho,hdat⟩,?_⟩)))))
  have hv : VRs h₂ μ₂ [a,b] (y++[z]) := (ra.step R₁ K S₂).append (.cons rb .nil)
  exact wpAny_mono (hc A fm hA K [a,b] g v g' hf2 μ₂ loc _ y [z] R₂ hv rfl) (fun z s' h => Post.then (h₁ := h₁) (tk₁ := tk₁) rfl S₁ (Post.then (h₁ := h₂) (tk₁ := tk₂) rfl S₂ h)) fun _ _ e => e
end
end Mine
end
section
namespace Mine
open PySem PyProof.Rows PySem.SeqAt
noncomputable def us (g : List LObj) : Option V→List V→Option V
  | b,[] => b
  | none,x :: r => us g (some x) r
  | some b,x :: r => match ltV g x b with
    | some true => us g (some x) r
    | some false => us g (some b) r
    | none => none
noncomputable def minF : LF
  | [.ref i],g => match g[i]? with
    | some (.lst xs) => (us g none xs).map fun v => (v,g)
    | _ => none
  | _,_ => none
noncomputable def bestO (b : Option Value) (c : Nat) : Obj := { cls := .type "list",data := .seq (match b with | some v => #[v,v] | none => #[]) c }
section
variable {C : Cx} {A : Around} {fm : Fm}
set_option tactic.hygienic true in
theorem lt_same (hA : A.units < cLine) {g : List LObj} {a b : V} {c : Bool} {μ : List Addr} {s : Shared} {x y : Value} {Q : Value→Shared→Prop} {E : Value→Shared→Prop} (hc : ltV g a b = some c) (ra : VR s.heap μ a x) (rb : VR s.heap μ b y) (hq : Q (.bool c) s) :
    wpAny C.M A (richCompare .Lt x y) Q E s := by
  unfold ltV at hc
  split at hc
  · cases hc; cases ra; cases rb; exact P.lt_int hq
  · split at hc
    · rename_i xs ys ms ns h1 h2
      cases hc
      obtain ⟨a1,v1,n1,rfl,g1,r1⟩ := ra.tupItems
      obtain ⟨a2,v2,n2,rfl,g2,r2⟩ := rb.tupItems
      have z1 := IntsAt.of h1 r1
      have z2 := IntsAt.of h2 r2
      simp only [Array.toArray_toList] at z1 z2
      exact richCompare_meets_room (op := .Lt) ⟨_,g1,rfl⟩ ⟨_,g2,rfl⟩ F.slot_tuple_lt F.entry_tuple_lt (F.args_tuple_lt_2 _ _) (zdb a1 a2 v1 v2 n1 n2 none none _ _ ms ns z1 z2)
        ⟨g1,g2,(fun x => nomatch x),hq⟩ hA
    · injection hc
  · injection hc
theorem min_loop (hu : A.in1.units < cLine) {I S : Addr} {i : Nat} {Inv : List Addr→Nat→Heap→Prop} (W : IterOk C A.in1 I (.lst i) Inv) {μ : List Addr} {st : St} {s₀ : Shared} (R₀ : Rel C fm μ st s₀)
    (hI : s₀.heap.get? I = none) (hS : s₀.heap.get? S = none) (hIS : S≠I) {xs : List V} (hx : st.g[i]? = some (.lst xs)) {v : V} {P : Result→Shared→Prop}
    (hP : ∀ h' tk x,(∀ b o,s₀.heap.get? b = some o→h'.get? b = some o)→VR h' μ v x→P (.ok (.ret x)) { s₀ with heap := h',toks := tk }) :
    ∀ (k j : Nat) (h : Heap) (tk c : Nat) (b : Option V) (bv : Option Value),xs.length - j = k→us st.g b (xs.drop j) = some v→(∀ b o,s₀.heap.get? b = some o→h.get? b = some o)→Inv μ j h →
      h.get? S = some (bestO bv c)→(match b,bv with | none,none => True | some u,some x => VR h μ u x | _,_ => False) →
      codeAny C.M A (.builtin "min.loop" ⟨[.ref I,.none,.ref S],[]⟩) P { s₀ with heap := h,toks := tk } := by
  have hname : (toString "min"++toString ".loop" : String) = "min.loop" := by decide
  have immI : ∀ (μ : List Addr) (j : Nat) (h h' : Heap),Inv μ j h→(∀ b o,b≠I→h.get? b = some o→h'.get? b = some o)→∀ b o,h.get? b = some o→Imm o→h'.get? b = some o := by
    intro μ j h h' hv hk b o e im
    refine hk b o (fun q => ?_) e
    obtain ⟨o',e',ho'⟩ := W.live μ j h hv
    obtain rfl := geq e' e q
    rcases im with ⟨z,_⟩ | ⟨z,_⟩
    · exact ho'.notT.1 z
    · exact nomatch ho'.notT.2.symm.trans z
  have immS : ∀ (h : Heap) (bv : Option Value) (c : Nat) (f : Obj→Obj),h.get? S = some (bestO bv c)→∀ b o,h.get? b = some o→Imm o→(h.update S f).get? b = some o := by
    intro h bv c f hb b o e im
    refine (Heap.get?_update_other _ _ (fun q => ?_)).trans e
    obtain rfl := geq hb e q.symm
    rcases im with ⟨z,_⟩ | ⟨z,_⟩ <;> simp [bestO,immT] at z
  intro k
  induction k with
  | zero =>
    intro j h tk c b bv hk hm hkeep hinv hb hbv
    rw [List.drop_of_length_le (o454 hk)] at hm
    have hbe : b = some v := by cases b <;> exact hm
    subst hbe
    cases bv with
    | none => exact hbv.elim
    | some x =>
      refine codeAny_builtin F.entry_min_loop ?_
      rw [Around.under_plainId F.plain_min_loop _]
      refine wpAny_bind (m := seqItems? (.ref S)) (wpAny_seqItems hb rfl ?_)
      refine wpAny_bind (m := tryCatch (pyNext (.ref I)) _) (wpAny_tryCatch (W.done fm μ st _ j _ _ (R₀.ext hkeep) hinv (by simp only [Src.get,hx]; rw [List.getElem?_eq_none_iff.mpr (o454 hk)]) fun h' tk' hk' => ?_))
      have hS' := hk' S _ hIS hb
      refine wpAny_bind (m := updateSeq S (fun _ => #[])) ?_
      refine wpAny_updateSeq hS' rfl (wpAny_bind (wpAny_letGo (wpAny_pure ?_)))
      refine hP _ _ x (fun q o e => ?_) ((hbv.mono (immI _ _ _ _ hinv hk') fun _ _ e => e).mono (immS _ _ _ _ hS') fun _ _ e => e)
      have hne : q≠S := gne hS e
      exact (Heap.get?_update_other _ _ (Ne.symm hne)).trans (hk' q o (gne hI e) (hkeep q o e))
  | succ k ih =>
    intro j h tk c b bv hk hm hkeep hinv hb hbv
    have hlt : j < xs.length := by exact o457 hk
    rw [List.drop_eq_getElem_cons hlt] at hm
    refine codeAny_builtin F.entry_min_loop ?_
    rw [Around.under_plainId F.plain_min_loop _]
    refine wpAny_bind (m := seqItems? (.ref S)) (wpAny_seqItems hb rfl ?_)
    refine wpAny_bind (m := tryCatch (pyNext (.ref I)) _) (wpAny_tryCatch (W.item fm μ st _ j xs[j] _ _ (R₀.ext hkeep) hinv (by simp only [Src.get,hx]; rw [List.getElem?_eq_getElem hlt]) fun x h' tk' rx hinv' hk' => ?_))
    have hS' := hk' S _ hIS hb
    have hkeep' : ∀ q o,s₀.heap.get? q = some o→h'.get? q = some o := fun q o e => hk' q o (gne hI e) (hkeep q o e)
    have rx' := rx.mono (immI _ _ _ _ hinv hk') fun _ _ e => e
    have upd : ∀ (f : Obj→Obj) q o,s₀.heap.get? q = some o→(h'.update S f).get? q = some o := fun f q o e => (Heap.get?_update_other _ _ (Ne.symm (gne hS e))).trans (hkeep' q o e)
    have updI : ∀ (f : Obj→Obj),Inv μ (j + 1) (h'.update S f) := fun f => W.frame _ _ _ _ hinv' fun o e => (Heap.get?_update_other _ _ hIS).trans e
    cases b with
    | none => cases bv with
      | some y => exact hbv.elim
      | none =>
        refine wpAny_bind (m := updateSeq S (fun _ => #[x,x])) ?_
        refine wpAny_updateSeq hS' rfl ?_
        rw [hname]
        exact wpAny_pure ⟨plainId_quiet F.plain_min_loop _,ih (j + 1) _ _ _ (some xs[j]) (some x) (o460 hk hlt) hm (upd _) (updI _) (Heap.get?_update_self _ hS' rfl) (rx'.mono (immS _ _ _ _ hS') fun _ _ e => e)⟩
    | some u => cases bv with
      | none => exact hbv.elim
      | some y =>
        have ry := hbv.mono (immI _ _ _ _ hinv hk') fun _ _ e => e
        unfold us at hm
        refine wpAny_bind (m := tryCatch (holding [x,x] (richCompare .Lt x y >>= _)) _) (wpAny_tryCatch (wpAny_holding (wpAny_bind ?_)))
        cases hc : ltV st.g xs[j] u with
        | none => rw [hc] at hm; injection hm
        | some yes =>
          rw [hc] at hm
          refine lt_same hu hc rx' ry ?_
          refine wpAny_bind (wpAny_holding (wpAny_truthy_bool ?_))
          refine wpAny_bind (wpAny_letGo (wpAny_pure ?_))
          cases yes with
          | true =>
            refine wpAny_bind (m := updateSeq S (fun _ => #[x,x])) ?_
            refine wpAny_updateSeq hS' rfl (wpAny_bind (wpAny_letGo ?_))
            rw [hname]
            exact wpAny_pure ⟨plainId_quiet F.plain_min_loop _,ih (j + 1) _ _ _ (some xs[j]) (some x) (o460 hk hlt) hm (upd _) (updI _) (Heap.get?_update_self _ hS' rfl) (rx'.mono (immS _ _ _ _ hS') fun _ _ e => e)⟩
          | false =>
            refine wpAny_bind (m := letGo [x,x]) (wpAny_letGo ?_)
            rw [hname]
            exact wpAny_pure ⟨plainId_quiet F.plain_min_loop _,ih (j + 1) _ _ _ (some u) (some y) (o460 hk hlt) hm hkeep' hinv' hS' ry⟩
set_option tactic.hygienic true in
theorem min_ok (hh : A.handled = none) (hu : A.in1.units < cLine) : ju C A fm (.builtin "min") [] minF := by
  intro args g v g' hf μ loc s vals kvals R hv hkw
  apply gen4 (x := vals) (y := kvals) (z := v) (w := g'); intro G hG
  unfold minF at hf
  split at hf
  · rename_i i
    split at hf
    · rename_i xs hg
      cases q : us g none xs with
      | none => rw [q] at hf; injection hf
      | some w =>
        rw [q] at hf; cases hf
        obtain ⟨x,rfl,rfl,ra⟩ := hv.split1 hkw
        have hname : (toString "min"++toString ".loop" : String) = "min.loop" := by decide
        refine hG _ _ _ _ ?_
        refine call_function_tree F.kind_min F.plain_min F.entry_min (F.args_min1 _) ?_
        refine wpAny_bind (m := Builtin.Builtins.bindParams "min" ["key", "default"] 0 ⟨[],[]⟩) (wpAny_of_eq (show Builtin.Builtins.bindParams "min" ["key", "default"] 0 ⟨[],[]⟩ = pure [none,none] from rfl) ?_)
        refine wpAny_bind (wpAny_pure ?_)
        refine wpAny_bind (zbc (A := A.in1) hh (src := .lst i) (by simp [vu,hg]) R ra fun o Inv hio hfr IO hinv => ?_)
        refine wpAny_bind (wpAny_newObj_type ?_)
        rw [hname]
        have hI : s.heap.get? s.heap.objs.size = none := qz _
        have hsz : (s.heap.push o).objs.size = s.heap.objs.size + 1 := Heap.size_push ..
        have hS : s.heap.get? (s.heap.push o).objs.size = none := by rw [hsz]; exact Heap.get?_none_of_le (o449)
        refine wpAny_pure ⟨plainId_quiet F.plain_min_loop _,?_⟩
        refine min_loop hu IO R hI hS (by rw [hsz]; exact Nat.succ_ne_self _) hg (v := v) (fun h' tk x hk rx => ⟨μ,h',tk,rfl,.ext' hk,R.ext hk,rx⟩) _ 0 _ _ 0 none none rfl q (fun b o e => Heap.get?_push_of_some _ (Heap.get?_push_of_some _ e)) ?_ (Heap.get?_push_size _ rfl) trivial
        exact IO.frame _ _ _ _ hinv fun o e => Heap.get?_push_of_some _ e
    · injection hf
  · injection hf
end
end Mine
end
section
namespace Mine
open PySem PyProof.Rows
noncomputable def ku (x : Str) : List (Str × V)→Option V
  | [] => none
  | (k,v) :: r => if k == x then some v else ku x r
noncomputable def putK (x : Str) (v : V) : List (Str × V)→List (Str × V)
  | [] => [(x,v)]
  | (k,w) :: r => if k == x then (k,v) :: r else (k,w) :: putK x v r
theorem KV.uncons {h : Heap} {μ : List Addr} {kv : Str × V} {e : DictEntry} {r : List (Str × V)} {es : List DictEntry} (H : KV h μ (kv :: r) (e :: es)) : (∃ t,e.key = .str kv.1 t)∧VR h μ kv.2 e.val∧KV h μ r es :=
  ⟨(H.2 0 _ _ rfl rfl).1,(H.2 0 _ _ rfl rfl).2,by have := H.1; simpa using this,fun i w y e e' => H.2 (i + 1) w y (by simpa using e) (by simpa using e')⟩
theorem KV.cons {h : Heap} {μ : List Addr} {kv : Str × V} {e : DictEntry} {r : List (Str × V)} {es : List DictEntry} (h1 : ∃ t,e.key = .str kv.1 t) (h2 : VR h μ kv.2 e.val) (h3 : KV h μ r es) : KV h μ (kv :: r) (e :: es) := by
  refine ⟨by simp [h3.1],fun i w y e e' => ?_⟩
  cases i with
  | zero => simp at e e'; subst e e'; exact ⟨h1,h2⟩
  | succ i => simp at e e'; exact h3.2 i w y e e'
theorem zf2 (k x : Str) (t : Tok) : (Value.str k t).isStr x = (k == x) := rfl
theorem KV.noRef {h : Heap} {μ : List Addr} : ∀ {kvs : List (Str × V)} {es : List DictEntry},KV h μ kvs es→es.any (·.refKey) = false
  | [],es,H => by
    have : es = [] := List.length_eq_zero_iff.mp H.1.symm
    subst this; rfl
  | kv :: r,[],H => by have := H.1; simp at this
  | kv :: r,e :: es,H => by
    obtain ⟨⟨t,h1⟩,_,h3⟩ := H.uncons
    rw [List.any_cons,KV.noRef h3]
    obtain ⟨_,key,_⟩ := e
    simp only at h1; subst h1
    rfl
theorem KV.get {h : Heap} {μ : List Addr} {x : Str} : ∀ {kvs : List (Str × V)} {es : List DictEntry},KV h μ kvs es→match ku x kvs with
    | some v => ∃ val,es.find? (·.key.isStr x) = some val∧VR h μ v val.val
    | none => es.find? (·.key.isStr x) = none
  | [],es,H => by
    have : es = [] := List.length_eq_zero_iff.mp H.1.symm
    subst this; rfl
  | kv :: r,[],H => by have := H.1; simp at this
  | (k,v) :: r,e :: es,H => by
    obtain ⟨⟨t,h1⟩,h2,h3⟩ := H.uncons
    have ih := KV.get (x := x) h3
    unfold ku
    rw [List.find?_cons,h1,zf2]
    cases hk : (k == x) with
    | true => simp only [if_true]; exact ⟨e,rfl,h2⟩
    | false => simp only [Bool.false_eq_true,if_false]; exact ih
theorem KV.getL {h : Heap} {μ : List Addr} {x : Str} {kvs : List (Str × V)} {es : List DictEntry} {v : V} (H : KV h μ kvs es) (e : ku x kvs = some v) : ∃ val,PySem.W.getL x es = some (some val)∧VR h μ v val := by
  have := H.get (x := x)
  rw [e] at this
  obtain ⟨val,e1,e2⟩ := this
  exact ⟨val.val,by unfold PySem.W.getL; rw [e1],e2⟩
theorem KV.getN {h : Heap} {μ : List Addr} {x : Str} {kvs : List (Str × V)} {es : List DictEntry} (H : KV h μ kvs es) (e : ku x kvs = none) : PySem.W.getL x es = some none := by
  have := H.get (x := x)
  rw [e] at this
  unfold PySem.W.getL
  rw [this,H.noRef]; rfl
theorem KV.some {h : Heap} {μ : List Addr} {x : Str} {kvs : List (Str × V)} {es : List DictEntry} (H : KV h μ kvs es) : (PySem.W.getL x es).isSome = true := by
  cases e : ku x kvs with
  | none => rw [H.getN e]; rfl
  | some v => obtain ⟨val,e1,_⟩ := H.getL e; rw [e1]; rfl
theorem KV.put {h : Heap} {μ : List Addr} {x : Str} {v : V} {val : Value} {hs : Int} {t : Tok} (hv : VR h μ v val) : ∀ {kvs : List (Str × V)} {es : List DictEntry},KV h μ kvs es→KV h μ (putK x v kvs) (PySem.W.putL x hs (.str x t) val es)
  | [],es,H => by
    have : es = [] := List.length_eq_zero_iff.mp H.1.symm
    subst this; exact .cons ⟨t,rfl⟩ hv ⟨rfl,fun i _ _ e => by simp at e⟩
  | kv :: r,[],H => by have := H.1; simp at this
  | (k,w) :: r,e :: es,H => by
    obtain ⟨⟨t',h1⟩,h2,h3⟩ := H.uncons
    have ih := KV.put (x := x) (hs := hs) (t := t) hv h3
    unfold putK PySem.W.putL
    rw [h1,zf2]
    cases hk : (k == x) with
    | true => simp only [if_true]; exact .cons ⟨t',rfl⟩ hv h3
    | false => simp only [Bool.false_eq_true,if_false]; exact .cons ⟨t',h1⟩ h2 ih
theorem zij (x : Str) (v : V) : ∀ kvs : List (Str × V),(putK x v kvs).length≤kvs.length + 1
  | [] => by simp [putK]
  | (k,w) :: r => by
    unfold putK
    split
    · simp
    · have := zij x v r; simp; exact o461 this
noncomputable def insOf (g : List LObj) : V→Option (Addr × Nat × List (Str × V))
  | .ref i => match g[i]? with
    | some (.ins c d) => match g[d]? with
      | some (.dic kvs) => some (c,d,kvs)
      | _ => none
    | _ => none
  | _ => none
noncomputable def others (h : Heap) (L dx : Addr) : List (Addr × Obj) := (List.range h.objs.size).filterMap fun a => if a = L∨a = dx then none else (h.get? a).map fun o => (a,o)
set_option tactic.hygienic true in
theorem mem_others {h : Heap} {L dx : Addr} {p : Addr × Obj} : p ∈ others h L dx↔h.get? p.1 = some p.2∧p.1≠L∧p.1≠dx := by
  unfold others
  rw [List.mem_filterMap]
  constructor
  · rintro ⟨a,_,e⟩
    split at e
    · injection e
    · rename_i hn
      obtain ⟨o,e1,rfl⟩ := Option.map_eq_some_iff.mp e
      exact ⟨e1,fun q => hn (.inl q),fun q => hn (.inr q)⟩
  · rintro ⟨h1,h2,h3⟩
    refine ⟨p.1,List.mem_range.mpr (Heap.lt_size h1),?_⟩
    rw [if_neg (by rintro (q | q); exact h2 q; exact h3 q),h1]; rfl
noncomputable abbrev nilH (h : Heap) : Heap := ⟨#[],h.life⟩
section
variable {C : Cx} {A : Around} {fm : Fm}
theorem Rel.kin {μ : List Addr} {st : St} {s : Shared} (R : Rel C fm μ st s) : PySem.W.Frag.In C.K s.heap := C.kin.keeps R.base
theorem VR.handed {h : Heap} {μ : List Addr} {v : V} {x : Value} (r : VR h μ v x) : PySem.W.handedIn x = true := by cases r <;> rfl
set_option tactic.hygienic true in
theorem za5 {μ : List Addr} {st : St} {s : Shared} {v : V} {x : Value} {c : Addr} {d : Nat} {kvs : List (Str × V)} (R : Rel C fm μ st s) (h : insOf st.g v = some (c,d,kvs)) (rv : VR s.heap μ v x) :
    ∃ xa dx sl es n,x = .ref xa∧μ[d]? = some dx∧s.heap.get? dx = some (PySem.W.dictOf es n)∧KV s.heap μ kvs es∧PySem.W.InstAt s.heap xa ⟨.ref c,some dx,.plain,sl⟩ c (some (PySem.W.dictOf es n)) := by
  unfold insOf at h
  split at h
  · rename_i i
    refine VR.inv rv fun _ hi => ?_
    split at h
    · rename_i c' d' hg
      split at h
      · rename_i kvs' hd
        cases h
        obtain ⟨ob,e1,e2⟩ := R.objs _ _ _ hi hg
        revert e1; refine OR.inv e2 fun _ _ hdx e1 => ?_
        obtain ⟨ob',e3,e4⟩ := R.objs _ _ _ hdx hd
        revert e3; refine OR.inv e4 fun _ _ hkv e3 => ?_
        exact ⟨_,_,_,_,_,rfl,hdx,e3,hkv,e1,rfl,rfl,e3⟩
      · injection h
    · injection h
  · injection h
structure ClsGet (K : PySem.W.Frag) (c : Addr) (name : Str) : Prop where
  plain : PySem.W.plainGet K c name = true
  dict : PySem.W.hasDictIn K c = true
  find : PySem.W.findIn K (.ref c) name = some none
structure ClsSet (K : PySem.W.Frag) (c : Addr) (name : Str) : Prop where
  sets : PySem.W.findIn K (.ref c) "__setattr__" = some (some (.builtin "object.__setattr__"))
  over : PySem.W.plainOver K c = true
  taker : PySem.W.takerIn K c name = some none
  dict : PySem.W.hasDictIn K c = true
theorem zc7 {μ : List Addr} {st : St} {s : Shared} {v w : V} {x : Value} {c : Addr} {d : Nat} {kvs : List (Str × V)} {name : Str} {expr : Bool} (G : ClsGet C.K c name) (R : Rel C fm μ st s) (h : insOf st.g v = some (c,d,kvs)) (hw : ku name kvs = some w) (rv : VR s.heap μ v x) :
    wpAny C.M A (getAttr x name expr) (Post C fm VR μ s w st) NoE s := by
  obtain ⟨xa,dx,sl,es,n,rfl,hdx,hd,hkv,I⟩ := za5 R h rv
  obtain ⟨val,e1,e2⟩ := hkv.getL hw
  exact PySem.W.get_value R.kin I (PySem.W.plainGet_of G.plain).1 (PySem.W.findObj_own G.dict G.find rfl (by rw [PySem.W.lookIn_dict]; exact e1)) e2.handed (Post.tok R e2)
noncomputable def wx (c : Addr) (name : Str) (f : LM V) : LM V := zw f fun v st => match insOf st.g v with
  | some (c',_,kvs) => if c' = c then (ku name kvs).map fun w => (w,st) else none
  | none => none
set_option tactic.hygienic true in
theorem wg {o : Expr} {name : Str} {pos : Pos} {c : Addr} {f : LM V} (G : ClsGet C.K c name) (ho : Snd C A fm VR (eval o fm.env) f)
    (he : eval (.Attribute o name pos) fm.env = (do
      let o' ← eval o fm.env
      standAt pos.atName
      let r ← holding [o'] (getAttr o' name true)
      letTemporaryGo o o' r
      pure r) := by with_unfolding_all rfl) : Snd C A fm VR (eval (.Attribute o name pos) fm.env) (wx c name f) := by
  intro st w st' hf μ s R
  apply gen2 (x := w) (y := st'); intro G hG
  obtain ⟨a,st₁,h1,hg⟩ := zk hf
  clear hf
  split at hg
  · rename_i c' d kvs q
    split at hg
    · rename_i hc
      subst hc
      cases hl : ku name kvs with
      | none => rw [hl] at hg; injection hg
      | some u =>
        rw [hl] at hg; injection hg
        refine hG _ _ ?_
        refine Attribute_any_ (zo (ho _ _ _ h1 μ s R) fun x μ₁ h₁ tk₁ S₁ R₁ ra => ?_) he
        exact wpAny_mono (zc7 G R₁ q hl ra) (fun z s' h => Post.then rfl S₁ h) fun _ _ e => e
    · injection hg
  · injection hg
theorem Rel.setObjN {μ : List Addr} {st : St} {s : Shared} (R : Rel C fm μ st s) (K : FmOk fm) {m : Str→Option Value} (hm : ∀ (i : Nat) x v,fm.slots[i]? = some x→st.loc[i]? = some v→slotOk s.heap μ m x v) {h' : Heap} {tk : Nat} {i : Nat} {a : Addr} {o : LObj} {ob : Obj} (hi : μ[i]? = some a)
    (hn : h'.Ns fm.env.locals m) (hs : ∀ b o,b≠a→b≠fm.env.locals→s.heap.get? b = some o→h'.get? b = some o) (hob : h'.get? a = some ob) (ho : OR s.heap μ o ob) :
    Rel C fm μ { st with g := st.g.set i o } { s with heap := h',toks := tk }∧Step fm μ μ s.heap h' := by
  have hmem : a ∈ μ := List.mem_of_getElem? hi
  have S : Step fm μ μ s.heap h' := ⟨fun b o e h1 h2 => hs b o (fun q => h2 (q ▸ hmem)) (fun q => h1 (q ▸ List.mem_cons_self ..)) e,fun b o e => by
    by_cases q : b = a
    · subst q; exact ⟨ob,hob⟩
    · by_cases q' : b = fm.env.locals
      · subst q'; obtain ⟨o',_,_,e',_⟩ := hn; exact ⟨o',e'⟩
      · exact ⟨o,hs b o q q' e⟩,[],by simp,by simp⟩
  have hk := R.keepImm K S
  refine ⟨⟨fun b o e => ?_,⟨m,hn,fun j x v hx hv => (hm j x v hx hv).mono hk (fun _ _ e => e) fun c hc w q => ?_⟩,R.slen,R.loc0,R.cell0,by simp [R.len],fun j c o' hc ho' => ?_,R.nd,R.mu0,R.apart,R.pins⟩,S⟩
  · exact hs b o (gne (R.mu0 a hmem) e) (gne R.loc0 e) (R.base b o e)
  · obtain ⟨o',e1,e2⟩ := q
    obtain ⟨z,y⟩ := x
    simp only at hc; subst hc
    exact ⟨o',hs c o' (Ne.symm (R.muNeC hmem (List.mem_of_getElem? hx))) (R.neL (List.mem_of_getElem? hx)) e1,e2⟩
  · simp only at ho'
    by_cases q : j = i
    · subst q
      rw [hi] at hc; injection hc
      rw [List.getElem?_set_self (R.len ▸ (List.getElem?_eq_some_iff.mp hi).1)] at ho'; injection ho'
      exact ⟨ob,hob,ho.mono hk fun _ _ e => e⟩
    · rw [List.getElem?_set_ne (Ne.symm q)] at ho'
      obtain ⟨ob',e1,e2⟩ := R.objs j c o' hc ho'
      refine ⟨ob',hs c ob' (fun e => ?_) (R.apart c (List.mem_of_getElem? hc)).1 e1,e2.mono hk fun _ _ e => e⟩
      subst e
      obtain ⟨l1,e1⟩ := List.getElem?_eq_some_iff.mp hc
      obtain ⟨l2,e2⟩ := List.getElem?_eq_some_iff.mp hi
      have hp := List.pairwise_iff_getElem.mp R.nd
      rcases Nat.lt_trichotomy i j with z | z | z
      · exact hp i j l2 l1 z (e2.trans e1.symm)
      · exact q z.symm
      · exact hp j i l1 l2 z (e1.trans e2.symm)
theorem zc6 {μ : List Addr} {loc : List (Option V)} {g : List LObj} {s : Shared} {v w : V} {x val : Value} {c : Addr} {d : Nat} {kvs : List (Str × V)} {name : Str} (K : FmOk fm) (G : ClsSet C.K c name) (R : Rel C fm μ ⟨loc,g⟩ s) (h : insOf g v = some (c,d,kvs)) (hz : kvs.length < 100)
    (rv : VR s.heap μ v x) (rw' : VR s.heap μ w val) : wpAny C.M A (setAttr x name val) (Post C fm UR μ s () ⟨loc,g.set d (.dic (putK name w kvs))⟩) NoE s := by
  obtain ⟨xa,dx,sl,es,n,rfl,hdx,hd,hkv,I⟩ := za5 R h rv
  obtain ⟨m,hn,hso⟩ := R.ns
  have hne : dx≠fm.env.locals := R.muNeL (List.mem_of_getElem? hdx)
  refine PySem.W.set_plain R.kin I G.sets ?_
  have F : Fr (nilH s.heap) fm.env.locals s.heap m := ⟨hn,fun b o e => by simp [Heap.get?] at e,Nat.zero_le _⟩
  have N : News (nilH s.heap) fm.env.locals s.heap ([]++(dx,PySem.W.dictOf es n) :: others s.heap fm.env.locals dx) := by
    intro p hp
    rcases List.mem_cons.mp hp with rfl | hp
    · exact ⟨hd,hne,by simp [Heap.get?]⟩
    · obtain ⟨h1,h2,_⟩ := mem_others.mp hp
      exact ⟨h1,h2,by simp [Heap.get?]⟩
  refine PySem.W.osa_dict (s := { s with toks := s.toks + 1 }) F N R.kin I rfl G.over G.taker G.dict (by rw [PySem.W.lookIn_dict]; exact hkv.some) (fun _ hp => by cases hp) (fun p hp => (mem_others.mp hp).2.2)
    (PySem.W.putName_dict ..) rfl ?_ fun h' F' N' => ?_
  · have := (KV.put (x := name) (hs := PyData.keyHash C.w.params name) (t := s.toks + 1) rw' hkv).1
    have q := zij name w kvs
    show (PySem.W.putL name (PyData.keyHash C.w.params name) (Value.str name (s.toks + 1)) val es).length≤1000
    exact o462 hz this q
  · have e1 := (N' (dx,_) (List.mem_cons_self ..)).1
    obtain ⟨R',S'⟩ := R.setObjN K (tk := s.toks + 1 + 1) hso hdx F'.ns (fun b o h1 h2 e => (N' (b,o) (List.mem_cons_of_mem _ (mem_others.mpr ⟨e,h2,h1⟩))).1) e1 (.dic (KV.put rw' hkv))
    exact ⟨μ,h',_,rfl,S',R',trivial⟩
noncomputable def wh (c : Addr) (name : Str) (f ob : LM V) : LM Fl := zw f fun w => zw ob fun v st => match insOf st.g v with
  | some (c',d,kvs) => if c' = c∧kvs.length < 100 then some (.next,{ st with g := st.g.set d (.dic (putK name w kvs)) }) else none
  | none => none
set_option tactic.hygienic true in
theorem wf {o value : Expr} {name : Str} {pos' pos : Pos} {c : Addr} {f ob : LM V} (K : FmOk fm) (G : ClsSet C.K c name) (hf : Snd C A fm VR (eval value fm.env) f) (ho : Snd C A fm VR (eval o fm.env) ob)
    (hs : swapsWith value (some (.Attribute o name pos')) pos.line fm.env = pure false := by rfl) : Snd C A fm FR (exec (.Assign [.Attribute o name pos'] value pos) fm.env) (wh c name f ob) := by
  intro st w st' hr μ s R
  obtain ⟨a,st₁,h1,hg⟩ := zk hr
  obtain ⟨b,st₂,h2,hg'⟩ := zk hg
  clear hr hg
  have hg := hg'
  clear hg'
  split at hg
  · rename_i c' d kvs q
    split at hg
    · rename_i hc
      obtain ⟨rfl,hz⟩ := hc
      injection hg
      refine plainObj_wpAny_Assign_Attribute (zo (hf _ _ _ h1 μ s R) fun x μ₁ h₁ tk₁ S₁ R₁ ra => zo (ho _ _ _ h2 μ₁ _ R₁) fun y μ₂ h₂ tk₂ S₂ R₂ rb => ?_) hs
      refine wpAny_mono (zc6 K G R₂ q hz rb (ra.step R₁ K S₂)) (fun z s' h => ?_) fun _ _ e => e
      obtain ⟨μ₃,h₃,tk₃,rfl,S₃,R₃,_⟩ := h
      exact ⟨μ₃,h₃,tk₃,rfl,S₁.trans (S₂.trans S₃),R₃,.next⟩
    · injection hg
  · injection hg
noncomputable def ug (c : Addr) (name : Str) (o : V→V→Option V) (ob f : LM V) : LM Fl := zw ob fun v st => match insOf st.g v with
  | some (c',_,kvs) => if c' = c then (match ku name kvs with
      | some old => zw f (fun b st₂ => match o old b,insOf st₂.g v with
          | some w,some (c₂,d₂,kvs₂) => if c₂ = c∧kvs₂.length < 100 then some (.next,{ st₂ with g := st₂.g.set d₂ (.dic (putK name w kvs₂)) }) else none
          | _,_ => none) st
      | none => none) else none
  | none => none
set_option tactic.hygienic true in
theorem zg4 {o value : Expr} {name : Str} {tpos pos : Pos} {op : Operator} {c : Addr} {ov : V→V→Option V} {f ob : LM V} (K : FmOk fm) (G : ClsGet C.K c name) (G' : ClsSet C.K c name) (ho : Snd C A fm VR (eval o fm.env) ob) (hf : Snd C A fm VR (eval value fm.env) f)
    (hop : Op2Ok C A fm (inplaceOp op) ov) : Snd C A fm FR (exec (.AugAssign (.Attribute o name tpos) op value pos) fm.env) (ug c name ov ob f) := by
  intro st w st' hr μ s R
  obtain ⟨a,st₁,h1,hg⟩ := zk hr
  clear hr
  split at hg
  · rename_i c' d kvs q
    split at hg
    · rename_i hc
      subst hc
      split at hg
      · rename_i old hl
        obtain ⟨b,st₂,h2,hg'⟩ := zk hg
        clear hg
        have hg := hg'
        clear hg'
        split at hg
        · rename_i u c₂ d₂ kvs₂ e1 e2
          split at hg
          · rename_i hc
            obtain ⟨rfl,hz⟩ := hc
            injection hg
            refine wpAny_AugAssign_AttributeAny (zo (ho _ _ _ h1 μ s R) fun x μ₁ h₁ tk₁ S₁ R₁ ra => ?_)
            refine zo (zc7 G R₁ q hl ra) fun y μ₂ h₂ tk₂ S₂ R₂ rb => ?_
            refine zo (hf _ _ _ h2 μ₂ _ R₂) fun z μ₃ h₃ tk₃ S₃ R₃ rc => ?_
            refine zo (hop _ _ _ e1 μ₃ _ _ y z R₃ (rb.step R₂ K S₃) rc) fun n μ₄ h₄ tk₄ S₄ R₄ rn => ?_
            refine wpAny_mono (zc6 K G' R₄ e2 hz (ra.step R₁ K (S₂.trans (S₃.trans S₄))) rn) (fun z s' h => ?_) fun _ _ e => e
            obtain ⟨μ₅,h₅,tk₅,rfl,S₅,R₅,_⟩ := h
            exact ⟨μ₅,h₅,tk₅,rfl,S₁.trans (S₂.trans (S₃.trans (S₄.trans S₅))),R₅,.next⟩
          · injection hg
        · injection hg
      · injection hg
    · injection hg
  · injection hg
end
end Mine
end
section
namespace Mine
open PySem PyProof.Rows
structure ClsMeth (K : PySem.W.Frag) (c : Addr) (name : Str) (f : Addr) : Prop where
  plain : PySem.W.plainGet K c name = true
  find : PySem.W.findIn K (.ref c) name = some (some (.ref f))
  isfn : PySem.W.isFn K (.ref f) = true
noncomputable def vo (c : Addr) (name : Str) (fl : LF) (ob : LM V) (fs : LM (List V)) : LM V := zw ob fun v st => match insOf st.g v with
  | some (c',_,kvs) => if c' = c∧(ku name kvs).isNone = true then zw fs (fun args st₂ => match fl (v :: args) st₂.g with
      | some (r,g') => some (r,{ st₂ with g := g' })
      | none => none) st else none
  | none => none
set_option tactic.hygienic true in
theorem zdo {c : Addr} {name : Str} {fl : LF} {ob : LM V} {fs : LM (List V)} {st : St} {r : V} {st' : St} (h : vo c name fl ob fs st = some (r,st')) :
    ∃ v st₁ d kvs args loc g g',ob st = some (v,st₁)∧insOf st₁.g v = some (c,d,kvs)∧ku name kvs = none∧fs st₁ = some (args,⟨loc,g⟩)∧fl (v :: args) g = some (r,g')∧st' = ⟨loc,g'⟩ := by
  obtain ⟨v,st₁,h1,h2⟩ := zk h
  split at h2
  · rename_i c' d kvs q
    split at h2
    · rename_i hc
      obtain ⟨rfl,hn⟩ := hc
      obtain ⟨args,st₂,h3,h4⟩ := zk h2
      split at h4
      · rename_i r' g' h5
        injection h4
        exact ⟨v,st₁,d,kvs,args,st₂.loc,st₂.g,g',h1,q,Option.isNone_iff_eq_none.mp hn,h3,h5,rfl⟩
      · injection h4
    · injection h2
  · injection h2
section
variable {C : Cx} {A : Around} {fm : Fm} {d : Nat}
theorem zag {μ : List Addr} {st : St} {s : Shared} {v : V} {x : Value} {c f : Addr} {di : Nat} {kvs : List (Str × V)} {name : Str} {pl : Sem Bool} {Q : Value × List Value→Shared→Prop} {E : Value→Shared→Prop} (G : ClsMeth C.K c name f) (R : Rel C fm μ st s)
    (h : insOf st.g v = some (c,di,kvs)) (hw : ku name kvs = none) (rv : VR s.heap μ v x) (hQ : Q (.ref f,[x]) s) : wpAny C.M A (getMethod x name pl) Q E s := by
  obtain ⟨xa,dx,sl,es,n,rfl,hdx,hd,hkv,I⟩ := za5 R h rv
  exact PySem.W.method_fn R.kin I (PySem.W.plainGet_of G.plain).1 (PySem.W.plainGet_of G.plain).2 G.find (beq_iff_eq.mp G.isfn) (by show (PySem.W.lookIn name (PySem.W.dictOf es n)).map _ = _; rw [PySem.W.lookIn_dict,hkv.getN hw]; rfl) hQ
theorem v5 {o : Expr} {name : Str} {apos pos : Pos} {c f : Addr} {ob : LM V} {fl : LF} (K : FmOk fm) (G : ClsMeth C.K c name f) (ho : Snd C A fm VR (eval o fm.env) ob) (hA : OkA d A) (hc : FnOk C d f [] fl) {pl : Sem Bool}
    (hev : eval (.Call (.Attribute o name apos) [] [] pos) fm.env = (do
      let ov ← eval o fm.env
      standAt apos.atName
      let (f,first) ← holding [ov] (getMethod ov name pl)
      callWith pos f first (backTo pos (starEach [] fm.env)) []) := by rfl) :
    Snd C A fm VR (eval (.Call (.Attribute o name apos) [] [] pos) fm.env) (vo c name fl ob nilL) := by
  intro st r st' hf μ s R
  obtain ⟨v,st₁,di,kvs,args,loc,g,g',h1,h2,h3,h4,h5,rfl⟩ := zdo hf
  cases h4
  obtain ⟨⟨fd,hfd⟩,hc⟩ := hc.call
  obtain ⟨ob',ho',hdat⟩ := hfd.at'
  refine MethodCall_ (pl := pl) (zo (ho _ _ _ h1 μ s R) fun x μ₁ h₁ tk₁ S₁ R₁ ra => ?_) hev
  refine zag G R₁ h2 h3 ra ?_
  refine callWith_function_kw (o := ob') (fd := fd) (evalArgs_kw_nil rfl (wpAny_evalAll_nil ⟨⟨R₁.base _ _ ho',hdat⟩,?_⟩))
  exact wpAny_mono (hc A fm hA K [v] g r g' h5 μ₁ loc _ [x] [] R₁ (VRs.nilKw (.cons ra .nil)) rfl) (fun z s' h => Post.then rfl S₁ h) fun _ _ e => e
theorem zi3 {o e : Expr} {rest : List Expr} {name : Str} {apos pos : Pos} {c f : Addr} {ob : LM V} {fs : LM (List V)} {fl : LF} (K : FmOk fm) (G : ClsMeth C.K c name f) (ho : Snd C A fm VR (eval o fm.env) ob)
    (hargs : Snd C A fm VRs (spliced (backTo pos (starEach (e :: rest) fm.env))) fs) (hA : OkA d A) (hc : FnOk C d f [] fl) {pl : Sem Bool}
    (hev : eval (.Call (.Attribute o name apos) (e :: rest) [] pos) fm.env = (do
      let ov ← eval o fm.env
      standAt apos.atName
      let (f,first) ← holding [ov] (getMethod ov name pl)
      callWith pos f first (backTo pos (starEach (e :: rest) fm.env)) []) := by rfl)
    (he : starEach (e :: rest) fm.env = (false,eval e fm.env) :: starEach rest fm.env := by rfl) :
    Snd C A fm VR (eval (.Call (.Attribute o name apos) (e :: rest) [] pos) fm.env) (vo c name fl ob fs) := by
  intro st r st' hf μ s R
  obtain ⟨v,st₁,di,kvs,args,loc,g,g',h1,h2,h3,h4,h5,rfl⟩ := zdo hf
  obtain ⟨⟨fd,hfd⟩,hc⟩ := hc.call
  obtain ⟨ob',ho',hdat⟩ := hfd.at'
  refine MethodCall_ (pl := pl) (zo (ho _ _ _ h1 μ s R) fun x μ₁ h₁ tk₁ S₁ R₁ ra => ?_) hev
  refine zag G R₁ h2 h3 ra ?_
  have hsp := hargs _ _ _ h4 μ₁ _ R₁
  rw [he] at hsp ⊢
  refine callWith_function_kw (o := ob') (fd := fd) (evalArgs_kw rfl (zo hsp fun y μ₂ h₂ tk₂ S₂ R₂ rb => wpAny_evalAll_nil ⟨⟨R₂.base _ _ ho',hdat⟩,?_⟩))
  exact wpAny_mono (hc A fm hA K (v :: args) g r g' h5 μ₂ loc _ (x :: y) [] R₂ (VRs.nilKw (.cons (ra.step R₁ K S₂) rb)) rfl) (fun z s' h => Post.then (h₁ := h₁) (tk₁ := tk₁) rfl S₁ (Post.then (h₁ := h₂) (tk₁ := tk₂) rfl S₂ h)) fun _ _ e => e
end
end Mine
end
section
namespace Mine
open PySem PyProof.Rows
theorem zce (f : Value) (pos : List Value) : callBorrowed f pos = (call f pos).keep [borrowed] := by
  show Sem.call _ _ _ _ _ = Sem.call _ _ _ _ _
  congr 1
  funext r
  rcases r with e | f
  · rfl
  · cases f <;> rfl
theorem zgs {M : Model} {A : Around} {E : Value→Shared→Prop} {s : Shared} {env : Env} {x : Str} {k : Nat} {pos : Pos} {Q : Value→Shared→Prop} (h : ∀ t tk,Q (.str x t) { s with toks := tk }) : wpAny M A (eval (.Constant (.str x) k pos) env) Q E s := fun _ _ _ => h _ _
structure ClsBound (K : PySem.W.Frag) (c : Addr) (name : Str) (f : Addr) : Prop extends ClsMeth K c name f where
  dict : PySem.W.hasDictIn K c = true
  get : PySem.W.specialIn K (.ref f) "__get__" = some (some (.builtin "function.__get__"))
  takes : PySem.W.takesIn K (.ref f) = some false
  copied : PySem.W.copiedNames.contains name = false
noncomputable def iterE (c f : Addr) (name : Str) (ob : LM V) : LM V := zw ob fun v st => match v,insOf st.g v with
  | .ref x,some (c',_,kvs) => if c' = c∧(ku name kvs).isNone = true then some (.ref st.g.length,{ st with g := st.g++[.cit f true x] }) else none
  | _,_ => none
theorem zk6 : builtinKind "iter" = none := by decide +kernel
theorem zi7 : plainId "iter" = true := by decide +kernel
theorem zjg : entryFor table "iter" = some Builtin.«iter» := entryFor_of_tree (by kernel_rfl)
theorem zjr (a b : Value) : argsOk "iter" ⟨[a,b],[]⟩ := by unfold argsOk; kernel_rfl
theorem zaw : typeLookup (.type "method") "__call__" = pure (some (.builtin "method.__call__")) := by rw [typeLookup_type,builtinLookup_eq_fast]; kernel_rfl
section
variable {C : Cx} {A : Around} {fm : Fm} {d : Nat}
theorem wp_bound {μ : List Addr} {st : St} {s : Shared} {x : Nat} {xa c f : Addr} {di : Nat} {kvs : List (Str × V)} {name : Str} {expr : Bool} {Q : Value→Shared→Prop} {E : Value→Shared→Prop} (G : ClsBound C.K c name f) (R : Rel C fm μ st s)
    (h : insOf st.g (.ref x) = some (c,di,kvs)) (hw : ku name kvs = none) (hx : μ[x]? = some xa)
    (hQ : Q (.ref s.heap.objs.size) { s with heap := s.heap.push (PySem.W.methodObj (.ref f) (.ref xa)),toks := s.toks + 1 }) : wpAny C.M A (getAttr (.ref xa) name expr) Q E s := by
  obtain ⟨xa',dx,sl,es,n,e,hdx,hd,hkv,I⟩ := za5 R h (.ref hx)
  injection e
  exact PySem.W.get_bind R.kin I (PySem.W.plainGet_of G.plain).1 (PySem.W.findObj_fn G.dict G.find G.get G.takes G.copied (by rw [PySem.W.lookIn_dict]; exact hkv.getN hw)) (PySem.W.plainGet_of G.plain).2
    (wpAny_call (PySem.W.fn_get (s := { s with toks := s.toks + 1 }) R.kin (beq_iff_eq.mp G.isfn) (PySem.W.handed_on rfl hQ)))
theorem zjl {q : Addr} {f x : Value} {sv : Value} {s : Shared} {Q : Value→Shared→Prop} {E : Value→Shared→Prop} (hq : s.heap.get? q = some (PySem.W.methodObj f x))
    (h : Q (.ref s.heap.objs.size) { s with heap := s.heap.push { cls := .type "callable_iterator",data := .fields #[.ref q,sv,.bool false] } }) : wpAny C.M A (call (.builtin "iter") [.ref q,sv]) Q E s := by
  refine call_function_tree zk6 zi7 zjg (zjr _ _) ?_
  refine wpAny_bind (m := specialOf (.ref q) "__call__") (wpAny_specialOf ⟨_,hq,rfl⟩ zaw ?_)
  refine wpAny_bind (wpAny_rule (wpAny_bind (wpAny_newObj_type ?_)))
  exact wpAny_pure h
set_option tactic.hygienic true in
theorem snd_iter {o : Expr} {name : Str} {x0 : Str} {p apos pos cp : Pos} {k : Nat} {c f : Addr} {ob : LM V} (K : FmOk fm) (G : ClsBound C.K c name f) (hm : C.mg "iter" = none) (hx : fm.env.kindOf "iter" = some .globalImplicit) (ho : Snd C A fm VR (eval o fm.env) ob)
    (he : eval (.Attribute o name apos) fm.env = (do
      let o' ← eval o fm.env
      standAt apos.atName
      let r ← holding [o'] (getAttr o' name true)
      letTemporaryGo o o' r
      pure r) := by with_unfolding_all rfl)
    (hst : starEach [.Attribute o name apos,.Constant (.str x0) k cp] fm.env = [(false,eval (.Attribute o name apos) fm.env),(false,eval (.Constant (.str x0) k cp) fm.env)] := by rfl) (hx0 : x0 = ⟨#[]⟩ := by rfl) :
    Snd C A fm VR (eval (.Call (.Name "iter" p) [.Attribute o name apos,.Constant (.str x0) k cp] [] pos) fm.env) (iterE c f name ob) := by
  intro st r st' hf μ s R
  apply gen2 (x := r) (y := st'); intro G hG
  obtain ⟨v,st₁,h1,hg⟩ := zk hf
  clear hf
  split at hg
  · rename_i x c' di kvs q
    split at hg
    · rename_i hc
      obtain ⟨rfl,hn⟩ := hc
      injection hg
      subst hx0
      refine hG _ _ ?_
      refine Call_Name rfl (zbe K R hm (by rfl) (by decide) (callWith_builtin1 ?_ ?_ ?_) hx)
      · rw [hst]
        refine Calls.spliced_cons ?_
        refine Attribute_any_ (zo (ho _ _ _ h1 μ s R) fun y μ₁ h₁ tk₁ S₁ R₁ ra => ?_) he
        refine VR.inv ra fun xa hxa => ?_
        refine wp_bound G R₁ q (Option.isNone_iff_eq_none.mp hn) hxa ?_
        refine Calls.spliced_cons ?_
        refine zgs (k := k) (pos := cp) fun t tk => ?_
        refine wpAny_pure (zjl (Heap.get?_push_size _ rfl) ?_)
        have k1 : ∀ b o,h₁.get? b = some o→(h₁.push (PySem.W.methodObj (.ref f) (.ref xa))).get? b = some o := fun b o e => Heap.get?_push_of_some _ e
        have k2 : ∀ b o,(h₁.push (PySem.W.methodObj (.ref f) (.ref xa))).get? b = some o→((h₁.push (PySem.W.methodObj (.ref f) (.ref xa))).push { cls := .type "callable_iterator",data := .fields #[.ref h₁.objs.size,.str ⟨#[]⟩ t,.bool false] }).get? b = some o := fun b o e => Heap.get?_push_of_some _ e
        obtain ⟨R',S'⟩ := (R₁.ext (tk := tk) k1).newObj (tk := tk) k2 (qz _) (Heap.get?_push_size _ rfl) (.citOn (f := f) (Heap.get?_push_size _ rfl) hxa)
        refine ⟨_,_,_,rfl,S₁.trans (Step.trans (.ext' k1) S'),R',.ref ?_⟩
        rw [← R₁.len,List.getElem?_append_right (Nat.le_refl _)]; simp
      · rfl
      · rfl
    · injection hg
  · injection hg
end
end Mine
end
section
namespace Mine
open PySem PyProof.Rows PySem.SeqAt
noncomputable def vy (fl : LF) (f : Addr) (i : Nat) (g : List LObj) : Option (Option V × List LObj) := match g[i]? with
  | some (.cit f' true x) => if f' = f then (match fl [.ref x] g with
      | some (.str l,g') => match g'[i]? with
        | some (.cit f'' true x') => if f'' = f∧x' = x then (if l = [] then some (none,g'.set i (.cit f false x)) else some (some (.str l),g')) else none
        | _ => none
      | _ => none) else none
  | some (.cit _ false _) => some (none,g)
  | _ => none
noncomputable def OptR (h : Heap) (μ : List Addr) : Option V→Option Value→Prop
  | none,none => True
  | some v,some x => VR h μ v x
  | _,_ => False
theorem OkA.in1 {A : Around} {d : Nat} (h : OkA (d + 1) A) : OkA d A.in1 := ⟨h.handled,by have := h.depth; show A.depth + d < _; exact o463 this,by have := h.units; show A.units + 1 + 8 * d < _; exact o464 this⟩
theorem slot_ci : Slot "callable_iterator" "__next__" "callable_iterator.__next__" :=
  .of (owner := "callable_iterator") (n := "__next__") (by rw [typeLookup_type,builtinLookup_eq_fast]; kernel_rfl) (by decide +kernel) (by decide +kernel) (by decide +kernel)
    (by first | exact .inl (by decide +kernel) | exact .inr (by decide +kernel)) (by rw [isSubtype_type]; kernel_rfl)
theorem ziu : entryFor table "callable_iterator.__next__" = some Builtin.«callable_iterator.__next__» := entryFor_of_tree (by kernel_rfl)
theorem zlt (a : Value) : argsOk "callable_iterator.__next__" ⟨[a],[]⟩ := by unfold argsOk; kernel_rfl
section
variable {C : Cx} {A : Around} {fm : Fm} {d : Nat}
theorem zjt {α : Type} {prog : Program} {w : World} {A : Around} {s : Shared} {Q : α→Shared→Prop} {E : Value→Shared→Prop} (hh : A.handled = none)
    (h : ∀ e h',(∀ b o,s.heap.get? b = some o→h'.get? b = some o)→({ s with heap := h' } : Shared).TypeIs e "StopIteration"→E e { s with heap := h' }) : wpAny (model prog w) A (Builtin.SmallTypes.stopIteration (α := α)) Q E s := by
  show wpAny _ _ (newExc (.type "StopIteration") [] >>= _) _ _ _
  refine wpAny_bind ?_
  simp only [newExc,newTuple]
  refine wpAny_bind (wpAny_newObj_type ?_ (by size_fits))
  refine wpAny_bind (m := firstArgMember _ _) (wpAny_of_eq (a := Value.none) (by first | rfl | (simp only [firstArgMember]; rfl)) ?_)
  refine wpAny_newObj_type ?_ (by size_fits)
  simp only [raiseNew]
  refine wpAny_bind (wpAny_handled ?_)
  rw [hh]
  refine wpAny_bind (wpAny_pure (wpAny_throw ?_))
  exact h _ _ (fun b o e => Heap.get?_push_of_some _ (Heap.get?_push_of_some _ e)) ⟨_,Heap.get?_push_size _ rfl,rfl⟩
theorem zc9 {m f xa : Addr} {of : Obj} {fd : FuncData} {s : Shared} {Q : Bool→Shared→Prop} {E : Value→Shared→Prop} {M : Model} (hm : s.heap.get? m = some (PySem.W.methodObj (.ref f) (.ref xa))) (hf : s.heap.get? f = some of) (hd : of.data = .func fd) (hQ : Q true s) :
    wpAny M A (borrowsExactly (.ref m)) Q E s := by
  unfold borrowsExactly
  refine wpAny_bind (wpAny_load hm ?_)
  show wpAny _ _ (if (Value.type "method" == Value.type "method") = true then _ else _) _ _ _
  rw [if_pos (by decide)]
  refine wpAny_bind (wpAny_load hf ?_)
  rw [hd]
  exact wpAny_pure hQ
set_option tactic.hygienic true in
theorem zc8 {f : Addr} {fl : LF} (hA : OkA (d + 1) A) (K : FmOk fm) (hc : FnOk C d f [] fl) {μ : List Addr} {loc : List (Option V)} {g g' : List LObj} {s : Shared} (R : Rel C fm μ ⟨loc,g⟩ s) {i : Nat} {ia : Addr} (hi : μ[i]? = some ia) {r : Option V} (h : vy fl f i g = some (r,g')) :
    wpAny C.M A (pyNext (.ref ia)) (Post C fm OptR μ s r ⟨loc,g'⟩) NoE s := by
  obtain ⟨⟨fd,hfd⟩,hc⟩ := hc
  obtain ⟨of,ho,hdat⟩ := hfd.at'
  unfold vy at h
  split at h
  · rename_i f' x hg
    split at h
    · rename_i hff
      subst hff
      obtain ⟨ob,e1,e2⟩ := R.objs i ia _ hi hg
      revert e1; refine OR.inv e2 fun xa m t hm hx e1 => ?_
      split at h
      · rename_i l g₁ hfl
        split at h
        · rename_i f'' x' hg₁
          split at h
          · rename_i hee
            obtain ⟨rfl,rfl⟩ := hee
            unfold pyNext
            refine wpAny_bind (wpAny_attempt (wpAny_callSpecial?_slot (name := Str.ofString "__next__") ⟨_,e1,rfl⟩ slot_ci (wpAny_call_entry slot_ci ⟨_,e1,rfl⟩ ziu ?_ (zlt _))))
            refine wpAny_bind (m := field (.ref ia) 2) (wpAny_field e1 rfl (x := .bool false) rfl ?_)
            show wpAny _ _ (if (Value.bool false == Value.bool true) = true then _ else _) _ _ _
            rw [if_neg (by decide)]
            refine wpAny_bind (m := field (.ref ia) 0) (wpAny_field e1 rfl (x := .ref m) rfl ?_)
            refine wpAny_bind (m := (callOutOfASlot (.ref m)).attempt) (wpAny_attempt (wpAny_bind (zc9 hm (R.base _ _ ho) hdat ?_)))
            show wpAny _ _ (callBorrowed (.ref m) []) _ _ _
            rw [zce]
            have hk := hc A.in1 fm hA.in1 K [.ref x'] g _ _ hfl μ loc s [.ref xa] [] R (VRs.nilKw (.cons (.ref hx) .nil)) rfl
            refine Calls.wpAny_keep (wpAny_call (PySem.ks_codeAny_call_bound (a := ⟨[],[]⟩) hm (codeAny_mono hk fun res s' hr => ?_)))
            apply gen2 (x := res) (y := s'); intro G hG
            cases res with
            | error e => exact hr.elim
            | ok flw => cases flw with
              | ret y =>
                obtain ⟨μ₁,h₁,tk₁,rfl,S₁,R₁,ry⟩ := hr
                refine VR.inv ry fun t => ?_
                have hi₁ : μ₁[i]? = some ia := S₁.mu _ _ hi
                obtain ⟨ob₁,e3,e4⟩ := R₁.objs i ia _ hi₁ hg₁
                revert e3; refine OR.inv e4 fun xa₁ m₁ t₁ hm₁ hx₁ e3 => ?_
                refine hG _ _ ?_
                refine wpAny_bind (m := field (.ref ia) 2) (wpAny_field e3 rfl (x := .bool false) rfl ?_)
                show wpAny _ _ (if (Value.bool false == Value.bool true) = true then _ else _) _ _ _
                rw [if_neg (by decide)]
                refine wpAny_bind (m := field (.ref ia) 1) (wpAny_field e3 rfl (x := .str ⟨#[]⟩ t₁) rfl ?_)
                refine wpAny_bind (wpAny_holding (EqAt.str_str _ _ _ _ C.prog C.w _ _ ?_))
                by_cases hl : l = []
                · subst hl
                  rw [if_pos rfl] at h
                  injection h
                  show wpAny _ _ (if (!true) = true then _ else _) _ _ _
                  rw [if_neg (by decide)]
                  refine wpAny_bind (wpAny_rule (wpAny_bind ?_))
                  refine wpAny_bind (m := field (.ref ia) 0) (wpAny_field e3 rfl (x := .ref m₁) rfl ?_)
                  refine wpAny_bind (m := slotLetsGo _ (.ref m₁) _) (wpAny_bind (m := borrowsExactly (.ref m₁)) (zc9 hm₁ (R₁.base _ _ ho) hdat ?_))
                  show wpAny _ _ (pure ()) _ _ _
                  refine wpAny_pure ?_
                  have fr : ∀ (vs : Array Value) (a b : Value) (k : Nat),(Obj.mapFields (·.setIfInBounds k a) { cls := .type "callable_iterator",data := .fields vs }) = { cls := .type "callable_iterator",data := .fields (vs.setIfInBounds k a) } := fun _ _ _ _ => rfl
                  refine wpAny_bind (wpAny_setField e3 rfl (by simp) ?_)
                  have u1 := Heap.get?_update_self (Obj.mapFields (·.setIfInBounds 0 Value.none)) e3 rfl
                  refine wpAny_bind (wpAny_setField u1 rfl (by simp) ?_)
                  have u2 := Heap.get?_update_self (Obj.mapFields (·.setIfInBounds 1 Value.none)) u1 rfl
                  refine wpAny_setField u2 rfl (by simp) ?_
                  have u3 := Heap.get?_update_self (Obj.mapFields (·.setIfInBounds 2 (Value.bool true))) u2 rfl
                  have sb := ((Heap.SameBut.update h₁ ia (Obj.mapFields (·.setIfInBounds 0 Value.none))).trans (Heap.SameBut.update _ ia (Obj.mapFields (·.setIfInBounds 1 Value.none)))).trans (Heap.SameBut.update _ ia (Obj.mapFields (·.setIfInBounds 2 (Value.bool true))))
                  obtain ⟨R₂,S₂⟩ := R₁.setObj K (tk := tk₁) (o := .cit f'' false x') hi₁ sb u3 .citOff
                  refine zjt hA.handled fun e h₃ hk₃ hT => ?_
                  refine wpAny_bind (wpAny_isInstance (T := "StopIteration") (b := true) hT isSubtype_stop ?_)
                  exact wpAny_pure ⟨μ₁,h₃,tk₁,rfl,S₁.trans (S₂.trans (.ext' hk₃)),R₂.ext hk₃,trivial⟩
                · rw [if_neg hl] at h
                  injection h
                  have hne : ((⟨#[]⟩ : Str) == ⟨l.toArray⟩) = false := by
                    cases l with
                    | nil => exact absurd rfl hl
                    | cons a b => rfl
                  rw [hne]
                  exact wpAny_pure ⟨_,rfl,wpAny_pure ⟨μ₁,h₁,tk₁,rfl,S₁,R₁,.str l _⟩⟩
              | _ => exact hr.elim
          · injection h
        · injection h
      · injection h
    · injection h
  · rename_i f' x hg
    injection h
    obtain ⟨ob,e1,e2⟩ := R.objs i ia _ hi hg
    injection e2
    unfold pyNext
    refine wpAny_bind (wpAny_attempt (wpAny_callSpecial?_slot (name := Str.ofString "__next__") ⟨_,e1,rfl⟩ slot_ci (wpAny_call_entry slot_ci ⟨_,e1,rfl⟩ ziu ?_ (zlt _))))
    refine wpAny_bind (m := field (.ref ia) 2) (wpAny_field e1 rfl (x := .bool true) rfl ?_)
    show wpAny _ _ (if (Value.bool true == Value.bool true) = true then _ else _) _ _ _
    rw [if_pos (by decide)]
    refine wpAny_bind (wpAny_rule (wpAny_bind (zjt hA.handled fun e h₃ hk₃ hT => ?_)))
    refine wpAny_bind (wpAny_isInstance (T := "StopIteration") (b := true) hT isSubtype_stop ?_)
    exact wpAny_pure ⟨μ,h₃,s.toks,rfl,.ext' hk₃,R.ext hk₃,trivial⟩
  · injection h
end
end Mine
end
section
namespace Mine
open PySem PyProof.Rows PySem.SeqAt
noncomputable def wp (fl : LF) (f : Addr) (i : Nat) (body : V→LM Fl) : Nat→LM Fl
  | 0 => kj
  | n + 1 => fun st => match vy fl f i st.g with
    | some (some v,g') => zw (body v) (fun r => match r with
        | .next => wp fl f i body n
        | .cont => wp fl f i body n
        | .brk => zm
        | .ret v => fun st => some (.ret v,st)) ⟨st.loc,g'⟩
    | some (none,g') => some (.next,⟨st.loc,g'⟩)
    | none => none
noncomputable def forC (n : Nat) (fl : LF) (f : Addr) (it : LM V) (asg : V→LM Unit) (body : LM Fl) : LM Fl := zw it fun v st => match v with
  | .ref i => match st.g[i]? with
    | some (.cit _ _ _) => wp fl f i (fun x => zw (asg x) fun _ => body) n st
    | _ => none
  | _ => none
theorem zaj : Slot "callable_iterator" "__iter__" "callable_iterator.__iter__" :=
  .of (owner := "callable_iterator") (n := "__iter__") (by rw [typeLookup_type,builtinLookup_eq_fast]; kernel_rfl) (by decide +kernel) (by decide +kernel) (by decide +kernel)
    (by first | exact .inl (by decide +kernel) | exact .inr (by decide +kernel)) (by rw [isSubtype_type]; kernel_rfl)
theorem ze1 : entryFor table "callable_iterator.__iter__" = some Builtin.«dict_keyiterator.__iter__» :=
  entryFor_alias (id' := "dict_keyiterator.__iter__") (by kernel_rfl) rfl (by decide +kernel) (by kernel_rfl)
theorem zgl (a : Value) : argsOk "callable_iterator.__iter__" ⟨[a],[]⟩ := by unfold argsOk; kernel_rfl
section
variable {C : Cx} {A : Around} {fm : Fm} {d : Nat}
theorem ziz {s : Shared} {ia : Addr} {Q : Value→Shared→Prop} {E : Value→Shared→Prop} (hT : s.TypeIs (.ref ia) "callable_iterator") (h : Q (.ref ia) s) : wpAny C.M A (pyIter (.ref ia)) Q E s := by
  refine wpAny_pyIter_slot hT zaj (wpAny_call_entry zaj hT ze1 ?_ (zgl _))
  show wpAny _ _ (ret (.ref ia)) _ _ s
  exact wpAny_pure ⟨_,rfl, "callable_iterator",_,hT,slot_ci.lookup,h⟩
theorem cit_type {μ : List Addr} {st : St} {s : Shared} {i : Nat} {ia f : Addr} {on : Bool} {x : Nat} (R : Rel C fm μ st s) (hi : μ[i]? = some ia) (hg : st.g[i]? = some (.cit f on x)) : s.TypeIs (.ref ia) "callable_iterator" := by
  obtain ⟨ob,e1,e2⟩ := R.objs i ia _ hi hg
  cases e2 <;> exact ⟨_,e1,rfl⟩
set_option tactic.hygienic true in
theorem zd5 {target iter : Expr} {body : List Stmt} {pos : Pos} {f : Addr} {fl : LF} {it : LM V} {asg : V→LM Unit} {b : LM Fl} (K : FmOk fm) (hA : OkA (d + 1) A) (hc : FnOk C d f [] fl) (hi : Snd C A fm VR (eval iter fm.env) it) (ha : za2 C A fm target asg) (hb : Snd C A fm FR (execs body fm.env) b) (n : Nat)
    (hs : ∀ x,foldedSetIterable iter fm.env x = pure x := by intro _; rfl) (ht : ∀ it v,letOwnedTupleGo target it v = pure () := by intro _ _; rfl) :
    Snd C A fm FR (exec (.For target iter body [] pos) fm.env) (forC n fl f it asg b) := by
  intro st v st' hf μ s R
  obtain ⟨w,st₁,h1,hf'⟩ := zk hf
  clear hf
  split at hf'
  · rename_i i
    split at hf'
    · rename_i f₀ on₀ x₀ hg
      refine wpAny_For (zo (hi _ _ _ h1 μ s R) fun x μ₁ h₁ tk₁ S₁ R₁ ra => ?_) hs
      refine VR.inv ra fun ia hia => ?_
      refine ziz (cit_type R₁ hia hg) ?_
      refine codeAny_forLoop (fun k s' => ∃ μ' stn h' tk,s' = { s with heap := h',toks := tk }∧Step fm μ μ' s.heap h'∧Rel C fm μ' stn s'∧μ'[i]? = some ia∧wp fl f i (fun x => zw (asg x) fun _ => b) k stn = some (v,st')) ?_ n
        ⟨μ₁,st₁,_,tk₁,rfl,S₁,R₁,hia,hf'⟩ (fun v => ht _ v)
      rintro k s' hx0; obtain ⟨μ',stn,h',tk,rfl,S',R',hi',hk⟩ := hx0
      cases k with
      | zero => injection hk
      | succ k =>
        unfold wp at hk
        split at hk
        · rename_i u g' hnx
          refine wpAny_mono (zc8 hA K hc R' hi' hnx) (fun y s₂ hp => ?_) fun _ _ e => e.elim
          obtain ⟨μ₂,h₂,tk₂,rfl,S₂,R₂,ry⟩ := hp
          cases y with
          | none => exact ry.elim
          | some y =>
            obtain ⟨_,st₃,q1,hk'⟩ := zk hk
            obtain ⟨_,st₄,q2,q3⟩ := zk q1
            refine wpAny_mono (zo (ha u _ _ q2 μ₂ _ y R₂ ry) (k := fun _ s₂ => _) fun _ μ₃ h₃ tk₃ S₃ R₃ _ => ?_) (fun _ _ q => q) fun _ _ e => e.elim
            refine wpAny_mono (zo (hb _ _ _ q3 μ₃ _ R₃) (k := fun y s₂ => _) fun z μ₄ h₄ tk₄ S₄ R₄ rb => ?_) (fun _ _ q => q) fun _ _ e => e.elim
            have Sa : Step fm μ μ₄ s.heap h₄ := S'.trans (S₂.trans (S₃.trans S₄))
            have hi₄ := (S₂.trans (S₃.trans S₄)).mu _ _ hi'
            cases rb with
            | next => exact ⟨k,Nat.lt_succ_self _,μ₄,st₃,h₄,tk₄,rfl,Sa,R₄,hi₄,hk'⟩
            | cont => exact ⟨k,Nat.lt_succ_self _,μ₄,st₃,h₄,tk₄,rfl,Sa,R₄,hi₄,hk'⟩
            | brk => cases hk'; exact ⟨_,_,_,rfl,Sa,R₄,.next⟩
            | ret r => cases hk'; exact ⟨_,_,_,rfl,Sa,R₄,.ret r⟩
        · rename_i g' hnx
          injection hk
          refine wpAny_mono (zc8 hA K hc R' hi' hnx) (fun y s₂ hp => ?_) fun _ _ e => e.elim
          obtain ⟨μ₂,h₂,tk₂,rfl,S₂,R₂,ry⟩ := hp
          cases y with
          | some y => exact ry.elim
          | none => exact wpAny_execs_nil ⟨_,_,_,rfl,S'.trans S₂,R₂,.next⟩
        · injection hk
    · cases hf'
  · cases hf'
end
end Mine
end
section
namespace Mine
open PySem PyProof.Rows PySem.SeqAt
theorem slot_fn_ga : Slot "function" "__getattribute__" "object.__getattribute__" :=
  .of (owner := "object") (n := "__getattribute__") (by rw [typeLookup_type,builtinLookup_eq_fast]; kernel_rfl) (by decide +kernel) (by decide +kernel) (by decide +kernel)
    (by first | exact .inl (by decide +kernel) | exact .inr (by decide +kernel)) (by rw [isSubtype_type]; kernel_rfl)
theorem zhz : entryFor table "object.__getattribute__" = some Builtin.«object.__getattribute__» := entryFor_of_tree (by kernel_rfl)
theorem zjs (a b : Value) : argsOk "object.__getattribute__" ⟨[a,b],[]⟩ := by unfold argsOk; kernel_rfl
theorem xo : typeLookup (.type "function") "read" = pure none := by rw [typeLookup_type,builtinLookup_eq_fast]; kernel_rfl
theorem zep : typeLookup (.type "function") "__getattr__" = pure none := by rw [typeLookup_type,builtinLookup_eq_fast]; kernel_rfl
section
variable {C : Cx} {A : Around} {fm : Fm} {d : Nat}
theorem zjw {prog : Program} {w : World} {E : Value→Shared→Prop} {h : Heap} {g : Array GenState} {dr : Drawn} {t : Nat} {os : OsState} {sa da : Addr} {fd : FuncData} {sl : Array (Option Value)} {es : List DictEntry} {n : Nat} {v : Value} {Q : Value→Shared→Prop} (ho : h.get? sa = some ⟨.type "function",some da,.func fd,sl⟩)
    (hd : h.get? da = some (PySem.W.dictOf es n)) (hl : PySem.W.getL "read" es = some (some v)) (hh : PySem.W.handedIn v = true) (hQ : Q v ⟨h,g,dr,t + 1,os⟩) : wpAny (model prog w) A (getAttr (.ref sa) "read") Q E ⟨h,g,dr,t,os⟩ := by
  have hT : ∀ t,(⟨h,g,dr,t,os⟩ : Shared).TypeIs (.ref sa) "function" := fun t => ⟨_,ho,rfl⟩
  unfold getAttr getAttrBy
  refine wpAny_bind (wpAny_mkText (wpAny_holding (wpAny_bind (wpAny_typeOf (hT _) (wpAny_bind (wpAny_of_eq slot_fn_ga.lookup ?_))))))
  show wpAny _ _ (getAttrByItsOwn _ _ _ _ _ _) _ _ _
  unfold getAttrByItsOwn
  refine wpAny_bind (wpAny_pure (wpAny_bind (wpAny_attempt (wpAny_holding ?_))))
  show wpAny _ _ (boundAndCalled _ _ _) _ _ _
  unfold boundAndCalled
  rw [slot_fn_ga.bind]
  refine wpAny_bind (wpAny_pure ?_)
  refine wpAny_call_entry slot_fn_ga (hT _) zhz ?_ (zjs _ _)
  have f1 := xo
  have hT' := hT (t + 1)
  have hl' : nsLook "read" (PySem.W.dictOf es n) = pure (some v) := PySem.W.nsLook_of (by rw [PySem.W.lookIn_dict]; exact hl)
  repeat (any_goals (first | assumption | wp_step))
  exact ⟨v,rfl,by show wpAny _ _ (handedOut v) _ _ _; rw [PySem.W.handedOut_of hh]; exact wpAny_pure hQ⟩
theorem zjv {sa da : Addr} {s : Shared} {fd : FuncData} {sl : Array (Option Value)} {es : List DictEntry} {n : Nat} {v : Value} {pl : Sem Bool} {Q : Value × List Value→Shared→Prop} {E : Value→Shared→Prop} (ho : s.heap.get? sa = some ⟨.type "function",some da,.func fd,sl⟩)
    (hd : s.heap.get? da = some (PySem.W.dictOf es n)) (hl : PySem.W.getL "read" es = some (some v)) (hh : PySem.W.handedIn v = true) (hQ : Q (v,[]) { s with toks := s.toks + 1 }) : wpAny C.M A (getMethod (.ref sa) "read" pl) Q E s := by
  have hT : s.TypeIs (.ref sa) "function" := ⟨_,ho,rfl⟩
  unfold getMethod
  refine wpAny_bind (wpAny_specialOf hT slot_fn_ga.lookup ?_)
  dsimp only
  rw [PySem.F.canon_object_ga,if_neg (by decide)]
  refine wpAny_bind (wpAny_specialOf hT zep ?_)
  refine wpAny_bind (wpAny_specialOf hT xo ?_)
  refine wpAny_bind (wpAny_mono (Q := fun v => Q (v,[])) (E := E) ?_ (fun _ _ z => wpAny_pure z) fun _ _ z => z)
  obtain ⟨h,g,dr,t,os⟩ := s
  exact zjw ho hd hl hh hQ
end
end Mine
end
section
namespace Mine
open PySem PyProof.Rows PySem.SeqAt
noncomputable abbrev Cx.repin (C : Cx) (ps : List (Nat × Addr)) : Cx := { C with pin := ps }
theorem Rel.repin {C : Cx} {fm : Fm} {μ : List Addr} {st : St} {s : Shared} (R : Rel C fm μ st s) {ps : List (Nat × Addr)} (h : ∀ p ∈ ps,μ[p.1]? = some p.2) : Rel (C.repin ps) fm μ st s :=
  ⟨R.base,R.ns,R.slen,R.loc0,R.cell0,R.len,R.objs,R.nd,R.mu0,R.apart,h⟩
theorem Rel.unpin {C : Cx} {fm : Fm} {μ : List Addr} {st : St} {s : Shared} {ps : List (Nat × Addr)} (R : Rel (C.repin ps) fm μ st s) (h : ∀ p ∈ C.pin,μ[p.1]? = some p.2) : Rel C fm μ st s :=
  ⟨R.base,R.ns,R.slen,R.loc0,R.cell0,R.len,R.objs,R.nd,R.mu0,R.apart,h⟩
noncomputable def zlj (c : Nat) : LM V := fun st => match st.g[c]? with
  | some (.cell v) => some (v,st)
  | _ => none
section
variable {C : Cx} {A : Around} {fm : Fm} {d : Nat}
set_option tactic.hygienic true in
theorem zfq {x : Str} {pos : Pos} {c : Nat} {ca : Addr} (K : FmOk fm) (hp : (c,ca) ∈ C.pin) (hc : fm.env.cells.lookup x = some ca) (hl : fm.env.kindOf x = some .free)
    (hd : (x == ("__debug__" : Str)) = false := by decide) (hn : (x == ("__classdict__" : Str)) = false := by decide) : Snd C A fm VR (eval (.Name x pos) fm.env) (zlj c) := by
  intro st a st' hf μ s R
  unfold zlj at hf
  split at hf
  · rename_i v hg
    injection hf
    obtain ⟨ob,e1,e2⟩ := R.objs c ca _ (R.pins _ hp) hg
    cases e2 with | cell e rv =>
    exact wpAny_Name (wpAny_loadName_free K.kind hl hc ⟨ob,e1,e⟩ (Post.same R rv) hn) hd
  · injection hf
theorem rd_call {D : FDat} {x : Str} {c i : Nat} {ia : Addr} {names : List Str} {n : Nat} {body : List Stmt} {we : LM Fl} (hA : OkA (d + 1) A) (K : FmOk fm) (hbody : D.body = .stmts body) (hcell : ∀ y ∈ D.scope.names,y.2≠.cell) (hkind : D.scope.kind = .function)
    (hco : D.scope.isCoroutine = false) (hgen : D.scope.isGenerator = false) (hnd : names.Nodup) (hloc : ∀ y ∈ names,D.scope.names.lookup y = some .local)
    (hb : ∀ fd,FdIs fd D→∀ vals : List Value,vals.length = n→bindArgs fd ⟨vals,[]⟩ = pure (names.zip vals)) (hle : n≤names.length)
    (h : ∀ A fd L f ca,FdIs fd D→fd.closure = [(x,ca)]→OkA d A→FmOk ⟨callEnv fd L f,qt names,[]⟩→Snd (C.repin [(c,ca)]) A ⟨callEnv fd L f,qt names,[]⟩ FR (execs body (callEnv fd L f)) we)
    {μ : List Addr} {loc : List (Option V)} {g g' : List LObj} {s : Shared} (R : Rel C fm μ ⟨loc,g⟩ s) (hi : μ[i]? = some ia) (hg : g[i]? = some (.rdf D x c)) {args : List V} {vals : List Value} {v : V} (hf : runF names.length n [] we args g = some (v,g')) (hv : VRs s.heap μ args vals) :
    wpAny C.M A (call (.ref ia) vals) (Post C fm VR μ s v ⟨loc,g'⟩) NoE s := by
  obtain ⟨hn,fl,loc',hbd,hres⟩ := zbr hf
  obtain ⟨ob,ho,hor⟩ := R.objs i ia _ hi hg
  cases hor with | @rdf _ _ _ ca fd sl hfd hclo hca hcode =>
  refine wpAny_call (codeAny_call_def (fd := fd) (body := body) (by have := hA.depth; exact o420 this) ho rfl (C.nolimit.keeps R.base) ?_ (hfd.body.trans hbody) (BindsTo.of_eq (hb fd hfd vals (by rw [← hv.1]; exact hn))) (by rw [hfd.scope]; exact hcell) (fun y hy => by rw [hfd.scope]; exact hloc _ (List.of_mem_zip hy).1) (fun h₀ hns hk => ?_)
    (by rw [hfd.scope]; exact hco) (by rw [hfd.scope]; exact hgen) (by rw [hfd.scope]; exact hkind))
  · obtain ⟨a,b,vs,t,e1,e2,_,r⟩ := hcode; exact ⟨a,b,vs,t,e1,e2,r⟩
  generalize hL : s.heap.objs.size = L at *
  have hLn : s.heap.get? L = none := hL ▸ qz _
  have K' : FmOk ⟨callEnv fd L ia,qt names,[]⟩ := fmOk0 (by show fd.scope.kind = _; rw [hfd.scope]; exact hkind) hfd.globals hfd.builtins hnd
  have R0 := R.enter (env := callEnv fd L ia) (names := names) (tk := s.toks + (names.zip vals).length) (r := names.length - n) hk hLn hns hv (fun i y val => vw hnd i y val) (by rw [hn]; omega)
  have R0' := R0.repin (ps := [(c,ca)]) (fun p hp => by simp at hp; subst hp; exact hca)
  refine wpAny_mono (h _ fd L ia ca hfd hclo hA.deep K' _ _ _ (by simpa using hbd) μ _ R0') (fun fl' s' hp => ?_) fun _ _ e => e.elim
  obtain ⟨μ',h',tk,rfl,S',R',rf⟩ := hp
  have R'' : Rel C _ μ' _ _ := R'.unpin fun p hp => S'.mu _ _ (R.pins p hp)
  have S0 : Step ⟨callEnv fd L ia,qt names,[]⟩ μ μ' s.heap h' := Step.trans (.ext' hk) S'
  obtain ⟨Rb,Sb⟩ := Rel.back K R (by exact wr1 hLn) S0 R''
  refine ⟨μ',h',tk,rfl,Sb,Rb,?_⟩
  exact FR.out rf hres (fun _ r => r) fun r => r
end
end Mine
end
section
namespace Mine
open PySem PyProof.Rows PySem.SeqAt
noncomputable def rdOf (g : List LObj) : V→Option Nat
  | .ref si => match g[si]? with
    | some (.stf d) => match g[d]? with
      | some (.dic kvs) => match ku "read" kvs with
        | some (.ref ri) => some ri
        | _ => none
      | _ => none
    | _ => none
  | _ => none
open Classical in
noncomputable def readE (D : FDat) (x : Str) (fl : Nat→LF) (ob : LM V) (k : Int) : LM V := zw ob fun v st => match rdOf st.g v with
  | some ri => match st.g[ri]? with
    | some (.rdf D' x' c) => if D' = D∧x' = x then (match fl c [.int k] st.g with
        | some (r,g') => some (r,⟨st.loc,g'⟩)
        | none => none) else none
    | _ => none
  | none => none
theorem zgt {M : Model} {A : Around} {E : Value→Shared→Prop} {s : Shared} {env : Env} {x : Int} {k : Nat} {pos : Pos} {Q : Value→Shared→Prop} (h : ∀ t tk,Q (.int x t) { s with toks := tk }) : wpAny M A (eval (.Constant (.int x) k pos) env) Q E s := fun _ _ _ => h _ _
noncomputable abbrev RdOk (C : Cx) (A : Around) (fm : Fm) (D : FDat) (x : Str) (fl : Nat→LF) : Prop :=
  ∀ (c i : Nat) (ia : Addr) (μ : List Addr) (loc : List (Option V)) (g g' : List LObj) (s : Shared) (args : List V) (vals : List Value) (v : V),Rel C fm μ ⟨loc,g⟩ s→μ[i]? = some ia→g[i]? = some (.rdf D x c)→fl c args g = some (v,g')→VRs s.heap μ args vals →
    wpAny C.M A (call (.ref ia) vals) (Post C fm VR μ s v ⟨loc,g'⟩) NoE s
section
variable {C : Cx} {A : Around} {fm : Fm} {d : Nat}
set_option tactic.hygienic true in
theorem rdOf_at {μ : List Addr} {st : St} {s : Shared} {v : V} {x : Value} {ri : Nat} (R : Rel C fm μ st s) (h : rdOf st.g v = some ri) (rv : VR s.heap μ v x) :
    ∃ sa da fd sl es n ra,x = .ref sa∧s.heap.get? sa = some ⟨.type "function",some da,.func fd,sl⟩∧s.heap.get? da = some (PySem.W.dictOf es n)∧PySem.W.getL "read" es = some (some (.ref ra))∧μ[ri]? = some ra := by
  unfold rdOf at h
  split at h
  · rename_i si
    refine VR.inv rv fun _ hi => ?_
    split at h
    · rename_i d' hg
      split at h
      · rename_i kvs hd
        split at h
        · rename_i rj hl
          injection h
          obtain ⟨ob,e1,e2⟩ := R.objs _ _ _ hi hg
          revert e1; refine OR.inv e2 fun _ _ _ hdx e1 => ?_
          obtain ⟨ob',e3,e4⟩ := R.objs _ _ _ hdx hd
          revert e3; refine OR.inv e4 fun _ _ hkv e3 => ?_
          obtain ⟨val,e5,e6⟩ := hkv.getL hl
          cases e6 with | ref hr =>
          exact ⟨_,_,_,_,_,_,_,rfl,e1,e3,e5,hr⟩
        · injection h
      · injection h
    · injection h
  · injection h
set_option tactic.hygienic true in
theorem snd_read {o : Expr} {apos pos cp : Pos} {k0 : Int} {kk : Nat} {D : FDat} {x : Str} {fl : Nat→LF} {ob : LM V} (ho : Snd C A fm VR (eval o fm.env) ob) (hc : RdOk C A fm D x fl) {pl : Sem Bool}
    (hev : eval (.Call (.Attribute o "read" apos) [.Constant (.int k0) kk cp] [] pos) fm.env = (do
      let ov ← eval o fm.env
      standAt apos.atName
      let (f,first) ← holding [ov] (getMethod ov "read" pl)
      callWith pos f first (backTo pos (starEach [.Constant (.int k0) kk cp] fm.env)) []) := by rfl)
    (he : starEach [.Constant (.int k0) kk cp] fm.env = [(false,eval (.Constant (.int k0) kk cp) fm.env)] := by rfl) :
    Snd C A fm VR (eval (.Call (.Attribute o "read" apos) [.Constant (.int k0) kk cp] [] pos) fm.env) (readE D x fl ob k0) := by
  intro st r st' hf μ s R
  obtain ⟨v,st₁,h1,hg⟩ := zk hf
  clear hf
  split at hg
  · rename_i ri hri
    split at hg
    · rename_i D' x' c hrd
      split at hg
      · rename_i hD
        obtain ⟨rfl,rfl⟩ := hD
        split at hg
        · rename_i r' g' hfl
          injection hg
          refine MethodCall_ (pl := pl) (zo (ho _ _ _ h1 μ s R) fun y μ₁ h₁ tk₁ S₁ R₁ ra => ?_) hev
          obtain ⟨sa,da,fd,sl,es,n,rad,rfl,q1,q2,q3,q4⟩ := rdOf_at R₁ hri ra
          refine zjv q1 q2 q3 rfl ?_
          obtain ⟨ob',e1,e2⟩ := R₁.objs ri rad _ q4 hrd
          have hfn : ∃ fd,ob'.data = .func fd := by injection e2; exact ⟨_,rfl⟩
          obtain ⟨fd',hfd'⟩ := hfn
          rw [he]
          refine callWith_function_kw (o := ob') (fd := fd') (evalArgs_kw rfl (Calls.spliced_cons (zgt (k := kk) (pos := cp) fun t tk => wpAny_pure (wpAny_evalAll_nil ⟨⟨e1,hfd'⟩,?_⟩))))
          refine wpAny_mono (hc c ri rad μ₁ st₁.loc st₁.g g' _ [.int k0] [.int k0 t] _ (R₁.toks tk) q4 hrd hfl (.cons (.int _ _) .nil)) (fun z s' h => ?_) fun _ _ e => e
          exact Post.then (h₁ := h₁) (tk₁ := tk) rfl S₁ h
        · injection hg
      · injection hg
    · injection hg
  · injection hg
end
end Mine
end
section
namespace Mine
open PySem PyProof.Rows
structure DP where
  params : Arguments
  body : List Stmt
  scope : Scope
def dpIn (n : Str) (l : List Stmt) : DP := l.foldr (fun s r => match s with
  | .FunctionDef m a b _ _ _ sc _ _ _ => if m == n then ⟨a,b,sc⟩ else r
  | _ => r) ⟨⟨[],[],none,[],[],none,[]⟩,[],default⟩
def dpOf (n : Str) : DP := dpIn n PySem.Challenge.pw_oy0116_01.main.body
noncomputable abbrev fdOf (n : Str) (dV kV doc pm : Value) (an : Option Addr) (cdv ct : Value) : FuncData := PySem.W.fnOf n n (dpOf n).params (dpOf n).body (dpOf n).scope dV kV doc pm an cdv ct
structure FAt (C : Cx) (n : Str) (f : Addr) (dV kV : Value) : Prop where
  fn : ∃ doc pm an cdv ct,FnAt C f (fdOf n dV kV doc pm an cdv ct)
  mg : C.mg n = some (.ref f)
theorem binds0 {C : Cx} {fd : FuncData} {names : List Str} {n : Nat} (h : ∀ vals : List Value,vals.length = n→bindArgs fd ⟨vals,[]⟩ = pure (names.zip vals)) : Binds C fd [] names n [] := by
  intro s vals kvals _ hl hk
  have : kvals = [] := List.length_eq_zero_iff.mp hk
  subst this
  simp only [List.append_nil] at hl ⊢
  exact ⟨[],BindsTo.of_eq (by simpa using h vals hl),.nil⟩
theorem len1 {vals : List Value} (h : vals.length = 1) : ∃ a,vals = [a] := by
  match vals,h with
  | [a],_ => exact ⟨a,rfl⟩
theorem len2 {vals : List Value} (h : vals.length = 2) : ∃ a b,vals = [a,b] := by
  match vals,h with
  | [a,b],_ => exact ⟨a,b,rfl⟩
theorem len3 {vals : List Value} (h : vals.length = 3) : ∃ a b c,vals = [a,b,c] := by
  match vals,h with
  | [a,b,c],_ => exact ⟨a,b,c,rfl⟩
noncomputable def zdi (n : Nat) : LM Fl :=
  seqS (asgS 3 (zu (ldE 0) (ldE 2)))
  (seqS (jq n (cmpT gtV (ldE 2) (ldE 1))
    (seqS (asgS 4 (binE shrV (binE subV (ldE 2) (zd (.int 1))) (zd (.int 1))))
    (seqS (asgS 5 (zu (ldE 0) (ldE 4)))
    (seqS (iteL (cmpT ltV (ldE 3) (ldE 5))
      (seqS (setS (ldE 5) (ldE 0) (ldE 2)) (seqS (asgS 2 (ldE 4)) (seqS za0 zm)))
      zm)
    (seqS brkS zm)))))
  (seqS (setS (ldE 3) (ldE 0) (ldE 2)) zm))
noncomputable abbrev kd (n : Nat) : LF := runF 6 3 [] (zdi n)
theorem zg7 {C : Cx} {d : Nat} {f : Addr} (n : Nat) (H : FAt C "_siftdown" f .none .none) : FnOk C (d + 1) f [] (kd n) := by
  obtain ⟨doc,pm,an,cdv,ct,F⟩ := H.fn
  refine vx (names := ["heap", "startpos", "pos", "newitem", "parentpos", "parent"]) F rfl (show ∀ x ∈ (dpOf "_siftdown").scope.names,x.2≠.cell by decide +kernel) (by decide) (show ∀ x ∈ (["heap", "startpos", "pos", "newitem", "parentpos", "parent"] : List Str),(dpOf "_siftdown").scope.names.lookup x = some .local by decide +kernel) (binds0 fun vals h => ?_) (by decide) fun A L hA K => ?_
  · obtain ⟨a,b,c,rfl⟩ := len3 h
    rfl
  have hu : A.units < cLine := by have := hA.units; exact o0 this
  refine zb (zh K (zv K (za K rfl rfl) (za K rfl rfl)) rfl rfl) ?_
  refine zb (xf ?_ ?_ n) ?_
  · exact zf K (za K rfl rfl) (za K rfl rfl) gt_ok
  · refine zb (zh K (zn K (zn K (za K rfl rfl) zg ks) zg zif) rfl rfl) ?_
    refine zb (zh K (zv K (za K rfl rfl) (za K rfl rfl)) rfl rfl) ?_
    refine zb (z7 (zf K (za K rfl rfl) (za K rfl rfl) (zhk hu)) ?_ zi) ?_
    · exact zb (vi K (za K rfl rfl) (za K rfl rfl) (za K rfl rfl)) (zb (zh K (za K rfl rfl) rfl rfl) (zb kt zi))
    · exact zb zfs zi
  · exact zb (vi K (za K rfl rfl) (za K rfl rfl) (za K rfl rfl)) zi
end Mine
end
section
namespace Mine
open PySem PyProof.Rows
noncomputable def bNames : List Str := ["bytes", "bytearray", "ord", "chr", "len", "sum", "max", "min", "isinstance", "range", "list", "type", "iter", "str", "int", "float", "complex", "bool", "tuple", "dict", "set", "frozenset"]
noncomputable def B64L : List UInt8 := [65,66,67,68,69,70,71,72,73,74,75,76,77,78,79,80,81,82,83,84,85,86,87,88,89,90,97,98,99,100,101,102,103,104,105,106,107,108,109,110,111,112,113,114,115,116,117,118,119,120,121,122,48,49,50,51,52,53,54,55,56,57,43,47]
structure GOk (C : Cx) : Prop where
  b : ∀ x ∈ bNames,C.mg x = none
  b64 : ∃ val,C.mg "_B64" = some val∧VR C.H0 [] (.bytes B64L) val
  bty : ∃ val,C.mg "bytes_types" = some val∧VR C.H0 [] (.tup [.typ "bytes",.typ "bytearray"]) val
theorem jr {α β : Type} {C : Cx} {A : Around} {fm : Fm} {ρ : Heap→List Addr→α→β→Prop} {t : Sem β} : Snd C A fm ρ t kj := by
  intro st a st' hf; cases hf
theorem q9 : PlainAttrs "list" :=
  ⟨⟨"list.__getattribute__",by rw [typeLookup_type,builtinLookup_eq_fast]; kernel_rfl,by decide +kernel⟩,by rw [typeLookup_type,builtinLookup_eq_fast]; kernel_rfl⟩
theorem zx : typeOf (.builtin "list.append") = pure (.type "method_descriptor") := by show builtinType _ = _; rw [builtinType_eq_fast]; kernel_rfl
theorem yl : typeOf (.builtin "list.pop") = pure (.type "method_descriptor") := by show builtinType _ = _; rw [builtinType_eq_fast]; kernel_rfl
noncomputable def zie (n : Nat) : LM Fl := (seqS (asgS 2 (zr lenF (zl (ldE 0) nilL))) (seqS (asgS 3 (ldE 1)) (seqS (asgS 4 (zu (ldE 0) (ldE 1))) (seqS (asgS 5 (binE addV (binE mulV (zd (.int 2)) (ldE 1)) (zd (.int 1)))) (seqS (jq n (cmpT ltV (ldE 5) (ldE 2)) (seqS (asgS 6 (binE addV (ldE 5) (zd (.int 1)))) (seqS (iteL (andT (cmpT ltV (ldE 6) (ldE 2)) (notT (cmpT ltV (zu (ldE 0) (ldE 5)) (zu (ldE 0) (ldE 6))))) (seqS (asgS 5 (ldE 6)) zm) zm) (seqS (setS (zu (ldE 0) (ldE 5)) (ldE 0) (ldE 1)) (seqS (asgS 1 (ldE 5)) (seqS (asgS 5 (binE addV (binE mulV (zd (.int 2)) (ldE 1)) (zd (.int 1)))) zm)))))) (seqS (setS (ldE 4) (ldE 0) (ldE 1)) (seqS (ja (zr (kd n) (zl (ldE 0) (zl (ldE 3) (zl (ldE 1) nilL))))) zm)))))))
noncomputable abbrev vf (n : Nat) : LF := runF 7 2 [] (zie n)
theorem zkl {C : Cx} {d : Nat} {f : Addr} (n : Nat) (G : GOk C) {f_siftdown : Addr} (h_siftdown : C.mg "_siftdown" = some (.ref f_siftdown)∧FnOk C d f_siftdown [] (kd n)) (H : FAt C "_siftup" f .none .none) : FnOk C (d + 1) f [] (vf n) := by
  obtain ⟨doc,pm,an,cdv,ct,F⟩ := H.fn
  refine vx (names := ["heap", "pos", "endpos", "startpos", "newitem", "childpos", "rightpos"]) F rfl (show ∀ x ∈ (dpOf "_siftup").scope.names,x.2≠.cell by decide +kernel) (by decide) (show ∀ x ∈ (["heap", "pos", "endpos", "startpos", "newitem", "childpos", "rightpos"] : List Str),(dpOf "_siftup").scope.names.lookup x = some .local by decide +kernel) (binds0 fun vals h => ?_) (by decide) fun A L hA K => ?_
  · obtain ⟨a0,a1,rfl⟩ := len2 h
    rfl
  have hu : A.units < cLine := by have := hA.units; exact o0 this
  exact (zb (zh K (qh K (G.b _ (by decide)) rfl (by decide) rfl (zc K (za K rfl rfl) ze) yg) rfl rfl) (zb (zh K (za K rfl rfl) rfl rfl) (zb (zh K (zv K (za K rfl rfl) (za K rfl rfl)) rfl rfl) (zb (zh K (zn K (zn K zg (za K rfl rfl) zam) zg qx) rfl rfl) (zb (xf (zf K (za K rfl rfl) (za K rfl rfl) (zhk hu)) (zb (zh K (zn K (za K rfl rfl) zg qx) rfl rfl) (zb (z7 (qo (zf K (za K rfl rfl) (za K rfl rfl) (zhk hu)) (qi (yf (zf K (zv K (za K rfl rfl) (za K rfl rfl)) (zv K (za K rfl rfl) (za K rfl rfl)) (zhk hu))))) (zb (zh K (za K rfl rfl) rfl rfl) zi) zi) (zb (vi K (zv K (za K rfl rfl) (za K rfl rfl)) (za K rfl rfl) (za K rfl rfl)) (zb (zh K (za K rfl rfl) rfl rfl) (zb (zh K (zn K (zn K zg (za K rfl rfl) zam) zg qx) rfl rfl) zi))))) n) (zb (vi K (za K rfl rfl) (za K rfl rfl) (za K rfl rfl)) (zb (ql (qd K h_siftdown.1 rfl (zc K (za K rfl rfl) (zc K (za K rfl rfl) (zc K (za K rfl rfl) ze))) hA h_siftdown.2) rfl) zi)))))))
noncomputable def zdr (n : Nat) : LM Fl := (seqS (ja (q5 qf zt (ldE 0) (zl (ldE 1) nilL))) (seqS (ja (zr (kd n) (zl (ldE 0) (zl (zd (.int 0)) (zl (binE subV (zr lenF (zl (ldE 0) nilL)) (zd (.int 1))) nilL))))) zm))
noncomputable abbrev ki (n : Nat) : LF := runF 2 2 [] (zdr n)
theorem zht {C : Cx} {d : Nat} {f : Addr} (n : Nat) (G : GOk C) {f_siftdown : Addr} (h_siftdown : C.mg "_siftdown" = some (.ref f_siftdown)∧FnOk C d f_siftdown [] (kd n)) (H : FAt C "heappush" f .none .none) : FnOk C (d + 1) f [] (ki n) := by
  obtain ⟨doc,pm,an,cdv,ct,F⟩ := H.fn
  refine vx (names := ["heap", "item"]) F rfl (show ∀ x ∈ (dpOf "heappush").scope.names,x.2≠.cell by decide +kernel) (by decide) (show ∀ x ∈ (["heap", "item"] : List Str),(dpOf "heappush").scope.names.lookup x = some .local by decide +kernel) (binds0 fun vals h => ?_) (by decide) fun A L hA K => ?_
  · obtain ⟨a0,a1,rfl⟩ := len2 h
    rfl
  have hu : A.units < cLine := by have := hA.units; exact o0 this
  exact (zb (ql (qg K qe q9 PySem.F.slot_list_append zx (za K rfl rfl) (zc K (za K rfl rfl) ze) (qu K)) rfl) (zb (ql (qd K h_siftdown.1 rfl (zc K (za K rfl rfl) (zc K zg (zc K (zn K (qh K (G.b _ (by decide)) rfl (by decide) rfl (zc K (za K rfl rfl) ze) yg) zg ks) ze))) hA h_siftdown.2) rfl) zi))
noncomputable def zb7 (n : Nat) : LM Fl := (seqS (asgS 1 (q5 qf popF (ldE 0) nilL)) (seqS (iteL (truT truV (ldE 0)) (seqS (asgS 2 (zu (ldE 0) (zd (.int 0)))) (seqS (setS (ldE 1) (ldE 0) (zd (.int 0))) (seqS (ja (zr (vf n) (zl (ldE 0) (zl (zd (.int 0)) nilL)))) (seqS (retS (ldE 2)) zm)))) zm) (seqS (retS (ldE 1)) zm)))
noncomputable abbrev ky (n : Nat) : LF := runF 3 1 [] (zb7 n)
theorem zjb {C : Cx} {d : Nat} {f : Addr} (n : Nat) (G : GOk C) {f_siftup : Addr} (h_siftup : C.mg "_siftup" = some (.ref f_siftup)∧FnOk C d f_siftup [] (vf n)) (H : FAt C "heappop" f .none .none) : FnOk C (d + 1) f [] (ky n) := by
  obtain ⟨doc,pm,an,cdv,ct,F⟩ := H.fn
  refine vx (names := ["heap", "lastelt", "returnitem"]) F rfl (show ∀ x ∈ (dpOf "heappop").scope.names,x.2≠.cell by decide +kernel) (by decide) (show ∀ x ∈ (["heap", "lastelt", "returnitem"] : List Str),(dpOf "heappop").scope.names.lookup x = some .local by decide +kernel) (binds0 fun vals h => ?_) (by decide) fun A L hA K => ?_
  · obtain ⟨a0,rfl⟩ := len1 h
    rfl
  have hu : A.units < cLine := by have := hA.units; exact o0 this
  exact (zb (zh K (zkk qe q9 PySem.F.slot_list_pop yl (za K rfl rfl) (zks K)) rfl rfl) (zb (z7 (qa (za K rfl rfl) xe) (zb (zh K (zv K (za K rfl rfl) zg) rfl rfl) (zb (vi K (za K rfl rfl) (za K rfl rfl) zg) (zb (ql (qd K h_siftup.1 rfl (zc K (za K rfl rfl) (zc K zg ze)) hA h_siftup.2) rfl) (zb (zp (za K rfl rfl)) zi)))) zi) (zb (zp (za K rfl rfl)) zi)))
end Mine
end
section
namespace Mine
open PySem PyProof.Rows
noncomputable def zcl (n : Nat) : LM Fl := (seqS (iteL (chnT leV leV (zd (.int 65)) (ldE 0) (zd (.int 90))) (seqS (retS (binE subV (ldE 0) (zd (.int 65)))) zm) zm) (seqS (iteL (chnT leV leV (zd (.int 97)) (ldE 0) (zd (.int 122))) (seqS (retS (binE subV (ldE 0) (zd (.int 71)))) zm) zm) (seqS (iteL (chnT leV leV (zd (.int 48)) (ldE 0) (zd (.int 57))) (seqS (retS (binE addV (ldE 0) (zd (.int 4)))) zm) zm) (seqS (iteL (cmpT eqV (ldE 0) (zd (.int 43))) (seqS (retS (zd (.int 62))) zm) zm) (seqS (iteL (cmpT eqV (ldE 0) (zd (.int 47))) (seqS (retS (zd (.int 63))) zm) zm) (seqS (retS (zd (.int 64))) zm))))))
noncomputable abbrev vm (n : Nat) : LF := runF 1 1 [] (zcl n)
theorem zgk {C : Cx} {d : Nat} {f : Addr} (n : Nat) (G : GOk C) (H : FAt C "_b64_value" f .none .none) : FnOk C (d + 1) f [] (vm n) := by
  obtain ⟨doc,pm,an,cdv,ct,F⟩ := H.fn
  refine vx (names := ["c"]) F rfl (show ∀ x ∈ (dpOf "_b64_value").scope.names,x.2≠.cell by decide +kernel) (by decide) (show ∀ x ∈ (["c"] : List Str),(dpOf "_b64_value").scope.names.lookup x = some .local by decide +kernel) (binds0 fun vals h => ?_) (by decide) fun A L hA K => ?_
  · obtain ⟨a0,rfl⟩ := len1 h
    rfl
  have hu : A.units < cLine := by have := hA.units; exact o0 this
  exact (zb (z7 (vb K zg (za K rfl rfl) zg (uv hu) (uv hu)) (zb (zp (zn K (za K rfl rfl) zg ks)) zi) zi) (zb (z7 (vb K zg (za K rfl rfl) zg (uv hu) (uv hu)) (zb (zp (zn K (za K rfl rfl) zg ks)) zi) zi) (zb (z7 (vb K zg (za K rfl rfl) zg (uv hu) (uv hu)) (zb (zp (zn K (za K rfl rfl) zg qx)) zi) zi) (zb (z7 (zf K (za K rfl rfl) zg (vl hu)) (zb (zp zg) zi) zi) (zb (z7 (zf K (za K rfl rfl) zg (vl hu)) (zb (zp zg) zi) zi) (zb (zp zg) zi))))))
noncomputable def vg (n : Nat) : LM Fl := (seqS (iteL (andT (truT truV (ldE 0)) (cmpT ltV (zu (ldE 0) (zd (.int 0))) (ldE 1))) (seqS (zfk [(stS 1),(setA (ldE 0) (zd (.int 0)))] (tupE (zl (zu (ldE 0) (zd (.int 0))) (zl (ldE 1) nilL)))) (seqS (ja (zr (vf n) (zl (ldE 0) (zl (zd (.int 0)) nilL)))) zm)) zm) (seqS (retS (ldE 1)) zm))
noncomputable abbrev jc (n : Nat) : LF := runF 2 2 [] (vg n)
theorem zcy {C : Cx} {d : Nat} {f : Addr} (n : Nat) (G : GOk C) {f_siftup : Addr} (h_siftup : C.mg "_siftup" = some (.ref f_siftup)∧FnOk C d f_siftup [] (vf n)) (H : FAt C "heappushpop" f .none .none) : FnOk C (d + 1) f [] (jc n) := by
  obtain ⟨doc,pm,an,cdv,ct,F⟩ := H.fn
  refine vx (names := ["heap", "item"]) F rfl (show ∀ x ∈ (dpOf "heappushpop").scope.names,x.2≠.cell by decide +kernel) (by decide) (show ∀ x ∈ (["heap", "item"] : List Str),(dpOf "heappushpop").scope.names.lookup x = some .local by decide +kernel) (binds0 fun vals h => ?_) (by decide) fun A L hA K => ?_
  · obtain ⟨a0,a1,rfl⟩ := len2 h
    rfl
  have hu : A.units < cLine := by have := hA.units; exact o0 this
  exact (zb (z7 (qo (qa (za K rfl rfl) xe) (qi (zf K (zv K (za K rfl rfl) zg) (za K rfl rfl) (zhk hu)))) (zb (um K hA.handled (jb (zc K (zv K (za K rfl rfl) zg) (zc K (za K rfl rfl) ze))) (.cons (z9 K rfl rfl) rfl (.cons (asg_sub K (za K rfl rfl) zg) rfl .nil))) (zb (ql (qd K h_siftup.1 rfl (zc K (za K rfl rfl) (zc K zg ze)) hA h_siftup.2) rfl) zi)) zi) (zb (zp (za K rfl rfl)) zi))
noncomputable def xq (n : Nat) : LM Fl := (seqS (asgS 2 (zd (.int 0))) (seqS (forS n (zr j7 (zl (zr lenF (zl (ldE 0) nilL)) nilL)) (stS 3) (seqS (zfk [(stS 4),(stS 5),(stS 6)] (zu (ldE 0) (ldE 3))) (seqS (iteL (andT (cmpT leV (tupE (zl (ldE 5) (zl (ldE 3) nilL))) (tupE (zl (zu (zu (ldE 0) (ldE 1)) (zd (.int 1))) (zl (ldE 1) nilL)))) (orT (cmpT leV (ldE 4) (zu (zu (ldE 0) (ldE 1)) (zd (.int 0)))) (cmpT ltV (ldE 4) (ldE 2)))) (seqS (asgS 2 (binE addV (zr maxF (zl (lstE (zl (ldE 2) (zl (ldE 4) nilL))) nilL)) (ldE 6))) zm) zm) zm))) (seqS (retS (binE subV (ldE 2) (zd (.int 1)))) zm)))
noncomputable abbrev js (n : Nat) : LF := runF 7 2 [] (xq n)
theorem zay {C : Cx} {d : Nat} {f : Addr} (n : Nat) (G : GOk C) (H : FAt C "_law_last_hour" f .none .none) : FnOk C (d + 1) f [] (js n) := by
  obtain ⟨doc,pm,an,cdv,ct,F⟩ := H.fn
  refine vx (names := ["works", "own", "free", "place", "row", "due", "hours"]) F rfl (show ∀ x ∈ (dpOf "_law_last_hour").scope.names,x.2≠.cell by decide +kernel) (by decide) (show ∀ x ∈ (["works", "own", "free", "place", "row", "due", "hours"] : List Str),(dpOf "_law_last_hour").scope.names.lookup x = some .local by decide +kernel) (binds0 fun vals h => ?_) (by decide) fun A L hA K => ?_
  · obtain ⟨a0,a1,rfl⟩ := len2 h
    rfl
  have hu : A.units < cLine := by have := hA.units; exact o0 this
  exact (zb (zh K zg rfl rfl) (zb (xg K hA.handled (q8 K (G.b _ (by decide)) rfl (by decide) rfl (zc K (qh K (G.b _ (by decide)) rfl (by decide) rfl (zc K (za K rfl rfl) ze) yg) ze) y1) (z9 K rfl rfl) (zb (um K hA.handled (zv K (za K rfl rfl) (za K rfl rfl)) (.cons (z9 K rfl rfl) rfl (.cons (z9 K rfl rfl) rfl (.cons (z9 K rfl rfl) rfl .nil)))) (zb (z7 (qo (zf K (jb (zc K (za K rfl rfl) (zc K (za K rfl rfl) ze))) (jb (zc K (zv K (zv K (za K rfl rfl) (za K rfl rfl)) zg) (zc K (za K rfl rfl) ze))) (uv hu)) (qi (zz (zf K (za K rfl rfl) (zv K (zv K (za K rfl rfl) (za K rfl rfl)) zg) (uv hu)) (km (zf K (za K rfl rfl) (za K rfl rfl) (zhk hu)))))) (zb (zh K (zn K (qh K (G.b _ (by decide)) rfl (by decide) rfl (zc K (q0 (zc K (za K rfl rfl) (zc K (za K rfl rfl) ze))) ze) (zin hA.handled)) (za K rfl rfl) qx) rfl rfl) zi) zi) zi)) n) (zb (zp (zn K (za K rfl rfl) zg ks)) zi)))
end Mine
end
section
namespace Mine
open PySem PyProof.Rows
noncomputable def buffer_L (n : Nat) : LM Fl := (seqS (asgS 1 (zr zj6 (zl (ldE 0) nilL))) (seqS (iteL (cmpT isV (ldE 1) (zd (.typ "bytes"))) (seqS (retS (ldE 0)) zm) zm) (seqS (iteL (cmpT isV (ldE 1) (zd (.typ "bytearray"))) (seqS (retS (zr kz (zl (ldE 0) nilL))) zm) zm) (seqS kj zm))))
noncomputable abbrev za8 (n : Nat) : LF := runF 2 1 [] (buffer_L n)
theorem zll {C : Cx} {d : Nat} {f : Addr} (n : Nat) (G : GOk C) (H : FAt C "_buffer" f .none .none) : FnOk C (d + 1) f [] (za8 n) := by
  obtain ⟨doc,pm,an,cdv,ct,F⟩ := H.fn
  refine vx (names := ["data", "t"]) F rfl (show ∀ x ∈ (dpOf "_buffer").scope.names,x.2≠.cell by decide +kernel) (by decide) (show ∀ x ∈ (["data", "t"] : List Str),(dpOf "_buffer").scope.names.lookup x = some .local by decide +kernel) (binds0 fun vals h => ?_) (by decide) fun A L hA K => ?_
  · obtain ⟨a0,rfl⟩ := len1 h
    rfl
  have hu : A.units < cLine := by have := hA.units; exact o0 this
  exact (zb (zh K (q8 K (G.b _ (by decide)) rfl (by decide) rfl (zc K (za K rfl rfl) ze) zgx) rfl rfl) (zb (z7 (zf K (za K rfl rfl) (qs K (G.b _ (by decide)) rfl (by decide) rfl) wq) (zb (zp (za K rfl rfl)) zi) zi) (zb (z7 (zf K (za K rfl rfl) (qs K (G.b _ (by decide)) rfl (by decide) rfl) wq) (zb (zp (q8 K (G.b _ (by decide)) rfl (by decide) rfl (zc K (za K rfl rfl) ze) (yb hA.handled))) zi) zi) (zb jr zi))))
noncomputable def truth_L (n : Nat) : LM Fl := (seqS (asgS 1 (zr zj6 (zl (ldE 0) nilL))) (seqS (iteL (orT (cmpT isV (ldE 0) (zd .none)) (orT (cmpT isV (ldE 1) (zd (.typ "bool"))) (orT (cmpT isV (ldE 1) (zd (.typ "int"))) (orT (cmpT isV (ldE 1) (zd (.typ "float"))) (orT (cmpT isV (ldE 1) (zd (.typ "complex"))) (orT (cmpT isV (ldE 1) (zd (.typ "str"))) (orT (cmpT isV (ldE 1) (zd (.typ "bytes"))) (orT (cmpT isV (ldE 1) (zd (.typ "bytearray"))) (orT (cmpT isV (ldE 1) (zd (.typ "list"))) (orT (cmpT isV (ldE 1) (zd (.typ "tuple"))) (orT (cmpT isV (ldE 1) (zd (.typ "dict"))) (orT (cmpT isV (ldE 1) (zd (.typ "set"))) (orT (cmpT isV (ldE 1) (zd (.typ "frozenset"))) (cmpT isV (ldE 1) (zd (.typ "range")))))))))))))))) (seqS (retS (iteL (truT truV (ldE 0)) (zd (.bool true)) (zd (.bool false)))) zm) zm) (seqS kj zm)))
noncomputable abbrev ym (n : Nat) : LF := runF 2 1 [] (truth_L n)
theorem truth_ok {C : Cx} {d : Nat} {f : Addr} (n : Nat) (G : GOk C) (H : FAt C "_truth" f .none .none) : FnOk C (d + 1) f [] (ym n) := by
  obtain ⟨doc,pm,an,cdv,ct,F⟩ := H.fn
  refine vx (names := ["x", "t"]) F rfl (show ∀ x ∈ (dpOf "_truth").scope.names,x.2≠.cell by decide +kernel) (by decide) (show ∀ x ∈ (["x", "t"] : List Str),(dpOf "_truth").scope.names.lookup x = some .local by decide +kernel) (binds0 fun vals h => ?_) (by decide) fun A L hA K => ?_
  · obtain ⟨a0,rfl⟩ := len1 h
    rfl
  have hu : A.units < cLine := by have := hA.units; exact o0 this
  exact (zb (zh K (q8 K (G.b _ (by decide)) rfl (by decide) rfl (zc K (za K rfl rfl) ze) zgx) rfl rfl) (zb (z7 (zz (zf K (za K rfl rfl) zd4 wq) (zz (zf K (za K rfl rfl) (qs K (G.b _ (by decide)) rfl (by decide) rfl) wq) (zz (zf K (za K rfl rfl) (qs K (G.b _ (by decide)) rfl (by decide) rfl) wq) (zz (zf K (za K rfl rfl) (qs K (G.b _ (by decide)) rfl (by decide) rfl) wq) (zz (zf K (za K rfl rfl) (qs K (G.b _ (by decide)) rfl (by decide) rfl) wq) (zz (zf K (za K rfl rfl) (qs K (G.b _ (by decide)) rfl (by decide) rfl) wq) (zz (zf K (za K rfl rfl) (qs K (G.b _ (by decide)) rfl (by decide) rfl) wq) (zz (zf K (za K rfl rfl) (qs K (G.b _ (by decide)) rfl (by decide) rfl) wq) (zz (zf K (za K rfl rfl) (qs K (G.b _ (by decide)) rfl (by decide) rfl) wq) (zz (zf K (za K rfl rfl) (qs K (G.b _ (by decide)) rfl (by decide) rfl) wq) (zz (zf K (za K rfl rfl) (qs K (G.b _ (by decide)) rfl (by decide) rfl) wq) (zz (zf K (za K rfl rfl) (qs K (G.b _ (by decide)) rfl (by decide) rfl) wq) (zz (zf K (za K rfl rfl) (qs K (G.b _ (by decide)) rfl (by decide) rfl) wq) (km (zf K (za K rfl rfl) (qs K (G.b _ (by decide)) rfl (by decide) rfl) wq))))))))))))))) (zb (zp (vj (qa (za K rfl rfl) xe) xz xz)) zi) zi) (zb jr zi)))
noncomputable def zc4 (n : Nat) : LM Fl := (seqS (asgS 1 (zr zj6 (zl (ldE 0) nilL))) (seqS (iteL (cmpT isV (ldE 1) (zd (.typ "str"))) (seqS kj (seqS kj zm)) zm) (seqS (iteL (cmpT isV (ldE 1) (zd (.typ "bytes"))) (seqS (retS (ldE 0)) zm) zm) (seqS (iteL (cmpT isV (ldE 1) (zd (.typ "bytearray"))) (seqS (retS (zr kz (zl (ldE 0) nilL))) zm) zm) (seqS kj zm)))))
noncomputable abbrev kr (n : Nat) : LF := runF 2 1 [] (zc4 n)
theorem zcp {C : Cx} {d : Nat} {f : Addr} (n : Nat) (G : GOk C) (H : FAt C "_ascii_buffer" f .none .none) : FnOk C (d + 1) f [] (kr n) := by
  obtain ⟨doc,pm,an,cdv,ct,F⟩ := H.fn
  refine vx (names := ["data", "t"]) F rfl (show ∀ x ∈ (dpOf "_ascii_buffer").scope.names,x.2≠.cell by decide +kernel) (by decide) (show ∀ x ∈ (["data", "t"] : List Str),(dpOf "_ascii_buffer").scope.names.lookup x = some .local by decide +kernel) (binds0 fun vals h => ?_) (by decide) fun A L hA K => ?_
  · obtain ⟨a0,rfl⟩ := len1 h
    rfl
  have hu : A.units < cLine := by have := hA.units; exact o0 this
  exact (zb (zh K (q8 K (G.b _ (by decide)) rfl (by decide) rfl (zc K (za K rfl rfl) ze) zgx) rfl rfl) (zb (z7 (zf K (za K rfl rfl) (qs K (G.b _ (by decide)) rfl (by decide) rfl) wq) (zb jr (zb jr zi)) zi) (zb (z7 (zf K (za K rfl rfl) (qs K (G.b _ (by decide)) rfl (by decide) rfl) wq) (zb (zp (za K rfl rfl)) zi) zi) (zb (z7 (zf K (za K rfl rfl) (qs K (G.b _ (by decide)) rfl (by decide) rfl) wq) (zb (zp (q8 K (G.b _ (by decide)) rfl (by decide) rfl (zc K (za K rfl rfl) ze) (yb hA.handled))) zi) zi) (zb jr zi)))))
noncomputable def wc (n : Nat) : LM Fl := (seqS (iteL (truT truV (zr isiF (zl (ldE 0) (zl (zd (.typ "str")) nilL)))) (seqS kj zm) zm) (seqS (iteL (truT truV (zr isiF (zl (ldE 0) (zl (zd (.tup [.typ "bytes",.typ "bytearray"])) nilL)))) (seqS (retS (ldE 0)) zm) zm) (seqS kj zm)))
noncomputable abbrev qk (n : Nat) : LF := runF 1 1 [] (wc n)
theorem vz {C : Cx} {d : Nat} {f : Addr} (n : Nat) (G : GOk C) (H : FAt C "_bytes_from_decode_data" f .none .none) : FnOk C (d + 1) f [] (qk n) := by
  obtain ⟨doc,pm,an,cdv,ct,F⟩ := H.fn
  refine vx (names := ["s"]) F rfl (show ∀ x ∈ (dpOf "_bytes_from_decode_data").scope.names,x.2≠.cell by decide +kernel) (by decide) (show ∀ x ∈ (["s"] : List Str),(dpOf "_bytes_from_decode_data").scope.names.lookup x = some .local by decide +kernel) (binds0 fun vals h => ?_) (by decide) fun A L hA K => ?_
  · obtain ⟨a0,rfl⟩ := len1 h
    rfl
  obtain ⟨btyv,btym,btyr⟩ := G.bty
  have hu : A.units < cLine := by have := hA.units; exact o0 this
  exact (zb (z7 (qa (qh K (G.b _ (by decide)) rfl (by decide) rfl (zc K (za K rfl rfl) (zc K (qs K (G.b _ (by decide)) rfl (by decide) rfl) ze)) isi_ok) xe) (zb jr zi) zi) (zb (z7 (qa (qh K (G.b _ (by decide)) rfl (by decide) rfl (zc K (za K rfl rfl) (zc K (yz K btym btyr rfl) ze)) isi_ok) xe) (zb (zp (za K rfl rfl)) zi) zi) (zb jr zi)))
end Mine
end
section
namespace Mine
open PySem PyProof.Rows
theorem binds1k {C : Cx} {fd : FuncData} {kn : Str} {names : List Str} (h : ∀ a b : Value,bindArgs fd ⟨[a],[(kn,b)]⟩ = pure (names.zip [a,b])) : Binds C fd [kn] names 2 [] := by
  intro s vals kvals _ hl hk
  obtain ⟨b,rfl⟩ := len1 hk
  obtain ⟨a,rfl⟩ := len1 (vals := vals) (by simp at hl; exact o1 hl)
  exact ⟨[],BindsTo.of_eq (h a b),.nil⟩
noncomputable def zar (n : Nat) : LM Fl := (seqS (asgS 2 (zr (za8 n) (zl (ldE 0) nilL))) (seqS (asgS 1 (zr (ym n) (zl (ldE 1) nilL))) (seqS (asgS 3 (lstE nilL)) (seqS (asgS 4 (zd (.int 0))) (seqS (asgS 5 (zd (.int 0))) (seqS (forS n (ldE 2) (stS 6) (seqS (asgS 5 (binE andV (binE orV (binE shlV (ldE 5) (zd (.int 8))) (ldE 6)) (zd (.int 65535)))) (seqS (asgS 4 (binE addV (ldE 4) (zd (.int 8)))) (seqS (jq n (cmpT geV (ldE 4) (zd (.int 6))) (seqS (ja (q5 qf zt (ldE 3) (zl (zu (zd (.bytes B64L)) (binE andV (binE shrV (ldE 5) (binE subV (ldE 4) (zd (.int 6)))) (zd (.int 63)))) nilL))) (seqS (asgS 4 (binE subV (ldE 4) (zd (.int 6)))) zm))) zm)))) (seqS (iteL (cmpT eqV (ldE 4) (zd (.int 2))) (seqS (ja (q5 qf zt (ldE 3) (zl (zu (zd (.bytes B64L)) (binE shlV (binE andV (ldE 5) (zd (.int 3))) (zd (.int 4)))) nilL))) (seqS (ja (q5 qf zt (ldE 3) (zl (zd (.int 61)) nilL))) (seqS (ja (q5 qf zt (ldE 3) (zl (zd (.int 61)) nilL))) zm))) (seqS (iteL (cmpT eqV (ldE 4) (zd (.int 4))) (seqS (ja (q5 qf zt (ldE 3) (zl (zu (zd (.bytes B64L)) (binE shlV (binE andV (ldE 5) (zd (.int 15))) (zd (.int 2)))) nilL))) (seqS (ja (q5 qf zt (ldE 3) (zl (zd (.int 61)) nilL))) zm)) zm) zm)) (seqS (iteL (truT truV (ldE 1)) (seqS (ja (q5 qf zt (ldE 3) (zl (zd (.int 10)) nilL))) zm) zm) (seqS (retS (zr kz (zl (ldE 3) nilL))) zm)))))))))
noncomputable abbrev k9 (n : Nat) : LF := runF 7 2 [] (zar n)
theorem zfb {C : Cx} {d : Nat} {f : Addr} {kV : Value} (n : Nat) (G : GOk C) {f_buffer : Addr} (h_buffer : C.mg "_buffer" = some (.ref f_buffer)∧FnOk C d f_buffer [] (za8 n)) {f_truth : Addr} (h_truth : C.mg "_truth" = some (.ref f_truth)∧FnOk C d f_truth [] (ym n)) (H : FAt C "b2a_base64" f .none kV) : FnOk C (d + 1) f ["newline"] (k9 n) := by
  obtain ⟨doc,pm,an,cdv,ct,F⟩ := H.fn
  refine vx (names := ["data", "newline", "bin_data", "out", "leftbits", "leftchar", "b"]) F rfl (show ∀ x ∈ (dpOf "b2a_base64").scope.names,x.2≠.cell by decide +kernel) (by decide) (show ∀ x ∈ (["data", "newline", "bin_data", "out", "leftbits", "leftchar", "b"] : List Str),(dpOf "b2a_base64").scope.names.lookup x = some .local by decide +kernel) (binds1k fun a b => ?_) (by decide) fun A L hA K => ?_
  · rfl
  obtain ⟨b64v,b64m,b64r⟩ := G.b64
  have hu : A.units < cLine := by have := hA.units; exact o0 this
  exact (zb (zh K (qd K h_buffer.1 rfl (zc K (za K rfl rfl) ze) hA h_buffer.2) rfl rfl) (zb (zh K (qd K h_truth.1 rfl (zc K (za K rfl rfl) ze) hA h_truth.2) rfl rfl) (zb (zh K (q0 ze) rfl rfl) (zb (zh K zg rfl rfl) (zb (zh K zg rfl rfl) (zb (xg K hA.handled (za K rfl rfl) (z9 K rfl rfl) (zb (zh K (zn K (zn K (zn K (za K rfl rfl) zg zdj) (za K rfl rfl) or_ok) zg zdx) rfl rfl) (zb (zh K (zn K (za K rfl rfl) zg qx) rfl rfl) (zb (xf (zf K (za K rfl rfl) zg ge_ok) (zb (ql (qg K qe q9 PySem.F.slot_list_append zx (za K rfl rfl) (zc K (zv K (yz K b64m b64r rfl) (zn K (zn K (za K rfl rfl) (zn K (za K rfl rfl) zg ks) zif) zg zdx)) ze) (qu K)) rfl) (zb (zh K (zn K (za K rfl rfl) zg ks) rfl rfl) zi)) n) zi))) n) (zb (z7 (zf K (za K rfl rfl) zg (vl hu)) (zb (ql (qg K qe q9 PySem.F.slot_list_append zx (za K rfl rfl) (zc K (zv K (yz K b64m b64r rfl) (zn K (zn K (za K rfl rfl) zg zdx) zg zdj)) ze) (qu K)) rfl) (zb (ql (qg K qe q9 PySem.F.slot_list_append zx (za K rfl rfl) (zc K zg ze) (qu K)) rfl) (zb (ql (qg K qe q9 PySem.F.slot_list_append zx (za K rfl rfl) (zc K zg ze) (qu K)) rfl) zi))) (zb (z7 (zf K (za K rfl rfl) zg (vl hu)) (zb (ql (qg K qe q9 PySem.F.slot_list_append zx (za K rfl rfl) (zc K (zv K (yz K b64m b64r rfl) (zn K (zn K (za K rfl rfl) zg zdx) zg zdj)) ze) (qu K)) rfl) (zb (ql (qg K qe q9 PySem.F.slot_list_append zx (za K rfl rfl) (zc K zg ze) (qu K)) rfl) zi)) zi) zi)) (zb (z7 (qa (za K rfl rfl) xe) (zb (ql (qg K qe q9 PySem.F.slot_list_append zx (za K rfl rfl) (zc K zg ze) (qu K)) rfl) zi) zi) (zb (zp (q8 K (G.b _ (by decide)) rfl (by decide) rfl (zc K (za K rfl rfl) ze) (yb hA.handled))) zi)))))))))
noncomputable def zat (n : Nat) : LM Fl := (seqS (asgS 2 (zr (kr n) (zl (ldE 0) nilL))) (seqS (asgS 1 (zr (ym n) (zl (ldE 1) nilL))) (seqS (asgS 3 (lstE nilL)) (seqS (asgS 4 (zd (.int 0))) (seqS (asgS 5 (zd (.int 0))) (seqS (asgS 6 (zd (.int 0))) (seqS (asgS 7 (zd (.int 0))) (seqS (forS n (ldE 2) (stS 8) (seqS (iteL (cmpT eqV (ldE 8) (zd (.int 61))) (seqS (asgS 6 (binE addV (ldE 6) (zd (.int 1)))) (seqS (iteL (andT (cmpT geV (ldE 4) (zd (.int 2))) (cmpT leV (binE addV (ldE 4) (ldE 6)) (zd (.int 4)))) (seqS (asgS 7 (binE addV (ldE 7) (zd (.int 1)))) (seqS za0 zm)) zm) (seqS (iteL (notT (truT truV (ldE 1))) (seqS (asgS 7 (binE addV (ldE 7) (zd (.int 1)))) (seqS za0 zm)) zm) (seqS (iteL (cmpT eqV (ldE 4) (zd (.int 1))) (seqS brkS zm) zm) (seqS (iteL (andT (cmpT eqV (ldE 4) (zd (.int 0))) (cmpT eqV (ldE 7) (zd (.int 0)))) (seqS kj zm) zm) (seqS kj zm)))))) zm) (seqS (asgS 8 (zr (vm n) (zl (ldE 8) nilL))) (seqS (iteL (cmpT geV (ldE 8) (zd (.int 64))) (seqS (iteL (truT truV (ldE 1)) (seqS kj zm) zm) (seqS (asgS 7 (binE addV (ldE 7) (zd (.int 1)))) (seqS za0 zm))) zm) (seqS (iteL (andT (truT truV (ldE 6)) (truT truV (ldE 1))) (seqS (iteL (cmpT eqV (binE addV (ldE 4) (ldE 6)) (zd (.int 4))) (seqS kj zm) zm) (seqS kj zm)) zm) (seqS (asgS 6 (zd (.int 0))) (seqS (iteL (cmpT eqV (ldE 4) (zd (.int 0))) (seqS (asgS 4 (zd (.int 1))) (seqS (asgS 5 (ldE 8)) zm)) (seqS (iteL (cmpT eqV (ldE 4) (zd (.int 1))) (seqS (asgS 4 (zd (.int 2))) (seqS (ja (q5 qf zt (ldE 3) (zl (binE orV (binE shlV (ldE 5) (zd (.int 2))) (binE shrV (ldE 8) (zd (.int 4)))) nilL))) (seqS (asgS 5 (binE andV (ldE 8) (zd (.int 15)))) zm))) (seqS (iteL (cmpT eqV (ldE 4) (zd (.int 2))) (seqS (asgS 4 (zd (.int 3))) (seqS (ja (q5 qf zt (ldE 3) (zl (binE orV (binE shlV (ldE 5) (zd (.int 4))) (binE shrV (ldE 8) (zd (.int 2)))) nilL))) (seqS (asgS 5 (binE andV (ldE 8) (zd (.int 3)))) zm))) (seqS (asgS 4 (zd (.int 0))) (seqS (ja (q5 qf zt (ldE 3) (zl (binE orV (binE shlV (ldE 5) (zd (.int 6))) (ldE 8)) nilL))) (seqS (asgS 5 (zd (.int 0))) zm)))) zm)) zm)) (seqS (asgS 7 (binE addV (ldE 7) (zd (.int 1)))) zm)))))))) (seqS (iteL (cmpT eqV (ldE 4) (zd (.int 1))) (seqS kj zm) zm) (seqS (iteL (andT (cmpT neV (ldE 4) (zd (.int 0))) (cmpT ltV (binE addV (ldE 4) (ldE 6)) (zd (.int 4)))) (seqS kj zm) zm) (seqS (retS (zr kz (zl (ldE 3) nilL))) zm)))))))))))
noncomputable abbrev va (n : Nat) : LF := runF 9 2 [] (zat n)
theorem zff {C : Cx} {d : Nat} {f : Addr} {kV : Value} (n : Nat) (G : GOk C) {f_ascii_buffer : Addr} (h_ascii_buffer : C.mg "_ascii_buffer" = some (.ref f_ascii_buffer)∧FnOk C d f_ascii_buffer [] (kr n)) {f_truth : Addr} (h_truth : C.mg "_truth" = some (.ref f_truth)∧FnOk C d f_truth [] (ym n)) {f_b64_value : Addr} (h_b64_value : C.mg "_b64_value" = some (.ref f_b64_value)∧FnOk C d f_b64_value [] (vm n)) (H : FAt C "a2b_base64" f .none kV) : FnOk C (d + 1) f ["strict_mode"] (va n) := by
  obtain ⟨doc,pm,an,cdv,ct,F⟩ := H.fn
  refine vx (names := ["data", "strict_mode", "ascii_data", "out", "quad_pos", "leftchar", "pads", "i", "this_ch"]) F rfl (show ∀ x ∈ (dpOf "a2b_base64").scope.names,x.2≠.cell by decide +kernel) (by decide) (show ∀ x ∈ (["data", "strict_mode", "ascii_data", "out", "quad_pos", "leftchar", "pads", "i", "this_ch"] : List Str),(dpOf "a2b_base64").scope.names.lookup x = some .local by decide +kernel) (binds1k fun a b => ?_) (by decide) fun A L hA K => ?_
  · rfl
  have hu : A.units < cLine := by have := hA.units; exact o0 this
  exact (zb (zh K (qd K h_ascii_buffer.1 rfl (zc K (za K rfl rfl) ze) hA h_ascii_buffer.2) rfl rfl) (zb (zh K (qd K h_truth.1 rfl (zc K (za K rfl rfl) ze) hA h_truth.2) rfl rfl) (zb (zh K (q0 ze) rfl rfl) (zb (zh K zg rfl rfl) (zb (zh K zg rfl rfl) (zb (zh K zg rfl rfl) (zb (zh K zg rfl rfl) (zb (xg K hA.handled (za K rfl rfl) (z9 K rfl rfl) (zb (z7 (zf K (za K rfl rfl) zg (vl hu)) (zb (zh K (zn K (za K rfl rfl) zg qx) rfl rfl) (zb (z7 (qo (zf K (za K rfl rfl) zg ge_ok) (qi (zf K (zn K (za K rfl rfl) (za K rfl rfl) qx) zg (uv hu)))) (zb (zh K (zn K (za K rfl rfl) zg qx) rfl rfl) (zb kt zi)) zi) (zb (z7 (yf (qa (za K rfl rfl) xe)) (zb (zh K (zn K (za K rfl rfl) zg qx) rfl rfl) (zb kt zi)) zi) (zb (z7 (zf K (za K rfl rfl) zg (vl hu)) (zb zfs zi) zi) (zb (z7 (qo (zf K (za K rfl rfl) zg (vl hu)) (qi (zf K (za K rfl rfl) zg (vl hu)))) (zb jr zi) zi) (zb jr zi)))))) zi) (zb (zh K (qd K h_b64_value.1 rfl (zc K (za K rfl rfl) ze) hA h_b64_value.2) rfl rfl) (zb (z7 (zf K (za K rfl rfl) zg ge_ok) (zb (z7 (qa (za K rfl rfl) xe) (zb jr zi) zi) (zb (zh K (zn K (za K rfl rfl) zg qx) rfl rfl) (zb kt zi))) zi) (zb (z7 (qo (qa (za K rfl rfl) xe) (qi (qa (za K rfl rfl) xe))) (zb (z7 (zf K (zn K (za K rfl rfl) (za K rfl rfl) qx) zg (vl hu)) (zb jr zi) zi) (zb jr zi)) zi) (zb (zh K zg rfl rfl) (zb (z7 (zf K (za K rfl rfl) zg (vl hu)) (zb (zh K zg rfl rfl) (zb (zh K (za K rfl rfl) rfl rfl) zi)) (zb (z7 (zf K (za K rfl rfl) zg (vl hu)) (zb (zh K zg rfl rfl) (zb (ql (qg K qe q9 PySem.F.slot_list_append zx (za K rfl rfl) (zc K (zn K (zn K (za K rfl rfl) zg zdj) (zn K (za K rfl rfl) zg zif) or_ok) ze) (qu K)) rfl) (zb (zh K (zn K (za K rfl rfl) zg zdx) rfl rfl) zi))) (zb (z7 (zf K (za K rfl rfl) zg (vl hu)) (zb (zh K zg rfl rfl) (zb (ql (qg K qe q9 PySem.F.slot_list_append zx (za K rfl rfl) (zc K (zn K (zn K (za K rfl rfl) zg zdj) (zn K (za K rfl rfl) zg zif) or_ok) ze) (qu K)) rfl) (zb (zh K (zn K (za K rfl rfl) zg zdx) rfl rfl) zi))) (zb (zh K zg rfl rfl) (zb (ql (qg K qe q9 PySem.F.slot_list_append zx (za K rfl rfl) (zc K (zn K (zn K (za K rfl rfl) zg zdj) (za K rfl rfl) or_ok) ze) (qu K)) rfl) (zb (zh K zg rfl rfl) zi)))) zi)) zi)) (zb (zh K (zn K (za K rfl rfl) zg qx) rfl rfl) zi))))))) n) (zb (z7 (zf K (za K rfl rfl) zg (vl hu)) (zb jr zi) zi) (zb (z7 (qo (zf K (za K rfl rfl) zg (xn hu)) (qi (zf K (zn K (za K rfl rfl) (za K rfl rfl) qx) zg (zhk hu)))) (zb jr zi) zi) (zb (zp (q8 K (G.b _ (by decide)) rfl (by decide) rfl (zc K (za K rfl rfl) ze) (yb hA.handled))) zi)))))))))))
end Mine
end
section
namespace Mine
open PySem PyProof.Rows
theorem xc {fm : Fm} {scope : Scope} {cl : List (Str × Addr)} {own : List Str} {capS : List (Str × Option Addr)} (K : FmOk fm) (hk : scope.kind = .function) (hn : ((qt own++capS).map (·.1)).Nodup) (hc : ((qt own++capS).filterMap (·.2)).Nodup) (Cc : Addr) : FmOk (jt fm scope cl Cc own capS) :=
  ⟨hk,K.globals,K.builtins,hn,hc,fun a ha => by cases ha⟩
noncomputable def zan (n : Nat) : LM Fl := seqS (retS (zr kz (zl (kb n (ldE 0) 1 [] (stS 0) yesT (zr ordF (zl (ldE 0) nilL))) nilL))) zm
noncomputable abbrev q7 (n : Nat) : LF := runF 1 1 [] (zan n)
theorem zeq {C : Cx} {d : Nat} {f : Addr} (n : Nat) (G : GOk C) (H : FAt C "_law_octets" f .none .none) : FnOk C (d + 1) f [] (q7 n) := by
  obtain ⟨doc,pm,an,cdv,ct,F⟩ := H.fn
  refine vx (names := ["word"]) F rfl (show ∀ x ∈ (dpOf "_law_octets").scope.names,x.2≠.cell by decide +kernel) (by decide) (show ∀ x ∈ (["word"] : List Str),(dpOf "_law_octets").scope.names.lookup x = some .local by decide +kernel) (binds0 fun vals h => ?_) (by decide) fun A L hA K => ?_
  · obtain ⟨a0,rfl⟩ := len1 h
    rfl
  have hu : A.units < cLine := by have := hA.units; exact o0 this
  exact zb (zp (q8 K (G.b _ (by decide)) rfl (by decide) rfl (zc K (ko K hA.handled (za K rfl rfl) n (own := ["sign"]) (cap := []) (capS := []) rfl rfl (fun p i h => by simp at h) (xc K rfl (by decide) (by decide)) (fun Cc K' => z9 K' rfl rfl) (fun Cc K' => jo)
    (fun Cc K' => qh K' (G.b _ (by decide)) rfl (by decide) rfl (zc K' (za K' rfl rfl) ze) ord_ok)) ze) (yb hA.handled))) zi
end Mine
end
section
namespace Mine
open PySem PyProof.Rows
theorem zkw : PlainAttrs "str" :=
  ⟨⟨"object.__getattribute__",by rw [typeLookup_type,builtinLookup_eq_fast]; kernel_rfl,by decide +kernel⟩,by rw [typeLookup_type,builtinLookup_eq_fast]; kernel_rfl⟩
theorem yk : typeOf (.builtin "str.join") = pure (.type "method_descriptor") := by show builtinType _ = _; rw [builtinType_eq_fast]; kernel_rfl
noncomputable def wn (n : Nat) : LM Fl := (seqS (iteL (cmpT eqV (binE modV (ldE 1) (zd (.int 2))) (zd (.int 0))) (seqS (retS (binE addV (binE addV (zd (.str [34])) (q5 zao zhr (zd (.str [])) (zl (kb n (ldE 0) 1 [] (stS 0) yesT (iteL (cmpT inV (ldE 0) (zd (.str [34,92]))) (binE addV (zd (.str [92])) (ldE 0)) (ldE 0))) nilL))) (zd (.str [34])))) zm) zm) (seqS (retS (binE addV (q5 zao zhr (zd (.str [])) (zl (kb n (ldE 0) 1 [] (stS 0) yesT (iteL (cmpT inV (ldE 0) (zd (.str [34,92,32]))) (binE addV (zd (.str [92])) (ldE 0)) (ldE 0))) nilL)) (zu (lstE (zl (zd (.str [32])) (zl (zd (.str [9])) (zl (zd (.str [13])) nilL)))) (binE modV (binE divV (ldE 1) (zd (.int 2))) (zd (.int 3)))))) zm))
noncomputable abbrev jj (n : Nat) : LF := runF 2 2 [] (wn n)
set_option maxHeartbeats 2000000 in
theorem zcx {C : Cx} {d : Nat} {f : Addr} (n : Nat) (G : GOk C) (H : FAt C "_law_spelled" f .none .none) : FnOk C (d + 1) f [] (jj n) := by
  obtain ⟨doc,pm,an,cdv,ct,F⟩ := H.fn
  refine vx (names := ["word", "way"]) F rfl (show ∀ x ∈ (dpOf "_law_spelled").scope.names,x.2≠.cell by decide +kernel) (by decide) (show ∀ x ∈ (["word", "way"] : List Str),(dpOf "_law_spelled").scope.names.lookup x = some .local by decide +kernel) (binds0 fun vals h => ?_) (by decide) fun A L hA K => ?_
  · obtain ⟨a0,a1,rfl⟩ := len2 h
    rfl
  have hu : A.units < cLine := by have := hA.units; exact o0 this
  exact (zb (z7 (zf K (zn K (za K rfl rfl) zg wz) zg (vl hu)) (zb (zp (zn K (zn K (qq rfl) (qg K zed zkw PySem.F.slot_str_join yk (qq rfl) (zc K (ko K hA.handled (za K rfl rfl) n (own := ["sign"]) (cap := []) (capS := []) rfl rfl (fun p i h => by simp at h) (xc K rfl (by decide) (by decide)) (fun Cc K => (z9 K rfl rfl)) (fun Cc K => jo) (fun Cc K => (vj (zf K (za K rfl rfl) (qq rfl) in_ok) (zn K (qq rfl) (za K rfl rfl) qx) (za K rfl rfl)))) ze) zhp) qx) (qq rfl) qx)) zi) zi) (zb (zp (zn K (qg K zed zkw PySem.F.slot_str_join yk (qq rfl) (zc K (ko K hA.handled (za K rfl rfl) n (own := ["sign"]) (cap := []) (capS := []) rfl rfl (fun p i h => by simp at h) (xc K rfl (by decide) (by decide)) (fun Cc K => (z9 K rfl rfl)) (fun Cc K => jo) (fun Cc K => (vj (zf K (za K rfl rfl) (qq rfl) in_ok) (zn K (qq rfl) (za K rfl rfl) qx) (za K rfl rfl)))) ze) zhp) (zv K (q0 (zc K (qq rfl) (zc K (qq rfl) (zc K (qq rfl) ze)))) (zn K (zn K (za K rfl rfl) zg ud) zg wz)) qx)) zi))
end Mine
end
section
set_option maxHeartbeats 2000000
namespace Mine
open PySem PyProof.Rows
theorem cap1 {fs : List (Str × Option Addr)} {i0 : Nat} {x0 : Str} {c0 : Addr} (h0 : fs[i0]? = some (x0,some c0)) : ∀ (p : Nat) i,[i0][p]? = some i→∃ x c,fs[i]? = some (x,some c)∧[(x0,some c0)][p]? = some (x,some c) := by
  intro p i h
  rcases p with _ | p
  · simp at h; subst h; exact ⟨_,_,h0,rfl⟩
  simp at h
theorem cap2 {fs : List (Str × Option Addr)} {i0 i1 : Nat} {x0 x1 : Str} {c0 c1 : Addr} (h0 : fs[i0]? = some (x0,some c0)) (h1 : fs[i1]? = some (x1,some c1)) : ∀ (p : Nat) i,[i0,i1][p]? = some i→∃ x c,fs[i]? = some (x,some c)∧[(x0,some c0),(x1,some c1)][p]? = some (x,some c) := by
  intro p i h
  rcases p with _ | p
  · simp at h; subst h; exact ⟨_,_,h0,rfl⟩
  rcases p with _ | p
  · simp at h; subst h; exact ⟨_,_,h1,rfl⟩
  simp at h
theorem cap3 {fs : List (Str × Option Addr)} {i0 i1 i2 : Nat} {x0 x1 x2 : Str} {c0 c1 c2 : Addr} (h0 : fs[i0]? = some (x0,some c0)) (h1 : fs[i1]? = some (x1,some c1)) (h2 : fs[i2]? = some (x2,some c2)) : ∀ (p : Nat) i,[i0,i1,i2][p]? = some i→∃ x c,fs[i]? = some (x,some c)∧[(x0,some c0),(x1,some c1),(x2,some c2)][p]? = some (x,some c) := by
  intro p i h
  rcases p with _ | p
  · simp at h; subst h; exact ⟨_,_,h0,rfl⟩
  rcases p with _ | p
  · simp at h; subst h; exact ⟨_,_,h1,rfl⟩
  rcases p with _ | p
  · simp at h; subst h; exact ⟨_,_,h2,rfl⟩
  simp at h
noncomputable def y5 (n : Nat) : LM Fl := (seqS (asgS 2 (binE addV (binE addV (zd (.str [65,66,67,68,69,70,71,72,73,74,75,76,77,78,79,80,81,82,83,84,85,86,87,88,89,90,97,98,99,100,101,102,103,104,105,106,107,108,109,110,111,112,113,114,115,116,117,118,119,120,121,122,48,49,50,51,52,53,54,55,56,57])) (zr chrF (zl (zu (ldE 1) (zd (.int 0))) nilL))) (zr chrF (zl (zu (ldE 1) (zd (.int 1))) nilL)))) (seqS (asgS 3 (zd (.int 0))) (seqS (forS n (ldE 0) (stS 4) (seqS (asgS 3 (binE addV (binE mulV (ldE 3) (zd (.int 256))) (ldE 4))) zm)) (seqS (asgS 5 (binE modV (binE subV (zd (.int 0)) (zr lenF (zl (ldE 0) nilL))) (zd (.int 3)))) (seqS (asgS 3 (binE mulV (ldE 3) (binE powV (zd (.int 256)) (ldE 5)))) (seqS (asgS 6 (binE mulV (binE divV (binE addV (zr lenF (zl (ldE 0) nilL)) (ldE 5)) (zd (.int 3))) (zd (.int 4)))) (seqS (asgS 7 (q5 zao zhr (zd (.str [])) (zl (kb n (zr j7 (zl (ldE 6) nilL)) 1 [6,3,2] (stS 0) yesT (zu (ldE 3) (binE modV (binE divV (ldE 2) (binE powV (zd (.int 64)) (binE subV (binE subV (ldE 1) (zd (.int 1))) (ldE 0)))) (zd (.int 64))))) nilL))) (seqS (retS (binE addV (binG zfj (ldE 7) (binE subV (ldE 6) (ldE 5))) (binE mulV (zd (.str [61])) (ldE 5)))) zm))))))))
noncomputable abbrev ka (n : Nat) : LF := runF 8 2 [] (y5 n)
theorem zcw {C : Cx} {d : Nat} {f : Addr} (n : Nat) (G : GOk C) (H : FAt C "_law_written" f .none .none) : FnOk C (d + 1) f [] (ka n) := by
  obtain ⟨doc,pm,an,cdv,ct,F⟩ := H.fn
  refine zb8 (params := ["octets", "pair"]) (slots := fun L => [("octets",none),("pair",none),("signs",some (L + 1)),("number",some (L + 2)),("octet",none),("spare",none),("count",some (L + 3)),("word",none)]) (own := fun L => [L + 1,L + 2,L + 3]) (k := 8) F rfl rfl (by decide) (show ∀ x ∈ (["octets", "pair"] : List Str),(dpOf "_law_written").scope.names.lookup x = some .local by decide +kernel) (fun vals h => ?_) (fun L => rfl) (fun L i x h => ?_) (by decide) (fun L x c h => ?_) (fun L => ⟨F.kind,F.globals,F.builtins,show (["octets", "pair", "signs", "number", "octet", "spare", "count", "word"] : List Str).Nodup by decide,by simp,by simp⟩) (fun L a h => by simp only [List.mem_cons,List.not_mem_nil,or_false] at h; rcases h with rfl | rfl | rfl <;> exact Nat.lt_add_of_pos_right (Nat.succ_pos _)) fun A L hA K => ?_
  · obtain ⟨a0,a1,rfl⟩ := len2 h
    rfl
  · rcases i with _ | i
    · simp at h; subst h; rfl
    rcases i with _ | i
    · simp at h; subst h; rfl
    simp at h
  · simp at h
    rcases h with ⟨rfl,rfl⟩ | ⟨rfl,rfl⟩ | ⟨rfl,rfl⟩ <;> rfl
  have hu : A.units < cLine := by have := hA.units; exact o0 this
  exact (zb (jy K (zn K (zn K (qq rfl) (qh K (G.b _ (by decide)) rfl (by decide) rfl (zc K (zv K (za K rfl rfl) zg) ze) chr_ok) qx) (qh K (G.b _ (by decide)) rfl (by decide) rfl (zc K (zv K (za K rfl rfl) zg) ze) chr_ok) qx) rfl rfl rfl (by simp)) (zb (jy K zg rfl rfl rfl (by simp)) (zb (xg K hA.handled (za K rfl rfl) (z9 K rfl rfl) (zb (jy K (zn K (zn K (z6 K rfl rfl rfl) zg zam) (za K rfl rfl) qx) rfl rfl rfl (by simp)) zi) n) (zb (zh K (zn K (zn K zg (qh K (G.b _ (by decide)) rfl (by decide) rfl (zc K (za K rfl rfl) ze) yg) ks) zg wz) rfl rfl) (zb (jy K (zn K (z6 K rfl rfl rfl) (zn K zg (za K rfl rfl) pow_ok) zam) rfl rfl rfl (by simp)) (zb (jy K (zn K (zn K (zn K (qh K (G.b _ (by decide)) rfl (by decide) rfl (zc K (za K rfl rfl) ze) yg) (za K rfl rfl) qx) zg ud) zg zam) rfl rfl rfl (by simp)) (zb (zh K (qg K zed zkw PySem.F.slot_str_join yk (qq rfl) (zc K (ko K hA.handled (q8 K (G.b _ (by decide)) rfl (by decide) rfl (zc K (z6 K rfl rfl rfl) ze) y1) n (own := ["j"]) (cap := [6,3,2]) (capS := [("count",some (L + 3)),("number",some (L + 2)),("signs",some (L + 1))]) (cl := [("signs",L + 1),("number",L + 2),("count",L + 3)]) rfl rfl (cap3 rfl rfl rfl) (xc K rfl (show (["j", "count", "number", "signs"] : List Str).Nodup by decide) (by simp [qt])) (fun Cc K => (z9 K rfl rfl)) (fun Cc K => jo) (fun Cc K => (zv K (z6 K rfl rfl rfl) (zn K (zn K (z6 K rfl rfl rfl) (zn K zg (zn K (zn K (z6 K rfl rfl rfl) zg ks) (za K rfl rfl) ks) pow_ok) ud) zg wz)))) ze) zhp) rfl rfl) (zb (zp (zn K (zki (za K rfl rfl) (zn K (z6 K rfl rfl rfl) (za K rfl rfl) ks)) (zn K (qq rfl) (za K rfl rfl) zam) qx)) zi))))))))
noncomputable def ve (n : Nat) : LM Fl := (seqS (asgS 1 (lstE nilL)) (seqS (forS n (kb n (ldE 0) 3 [] (unpA [(stS 0),(stS 1),(stS 2)]) yesT (ldE 0)) (stS 2) (seqS (forS n (kb n (ldE 0) 3 [] (unpA [(stS 0),(stS 1),(stS 2)]) yesT (ldE 1)) (stS 3) (seqS (asgS 4 (kb n (ldE 0) 3 [2,3] (unpA [(stS 0),(stS 1),(stS 2)]) (andT (cmpT geV (ldE 0) (ldE 3)) (cmpT leV (ldE 1) (ldE 4))) (ldE 2))) (seqS (iteL (cmpT neV (ldE 4) (lstE nilL)) (seqS (ja (q5 qf zt (ldE 1) (zl (binE subV (zr sumF (zl (ldE 4) nilL)) (binE addV (binE subV (ldE 3) (ldE 2)) (zd (.int 1)))) nilL))) zm) zm) zm))) zm)) (seqS (retS (zr maxF (zl (ldE 1) nilL))) zm)))
noncomputable abbrev q6 (n : Nat) : LF := runF 5 1 [] (ve n)
theorem xp {C : Cx} {d : Nat} {f : Addr} (n : Nat) (G : GOk C) (H : FAt C "_law_least_lateness" f .none .none) : FnOk C (d + 1) f [] (q6 n) := by
  obtain ⟨doc,pm,an,cdv,ct,F⟩ := H.fn
  refine zb8 (params := ["works"]) (slots := fun L => [("works",none),("most",none),("first",some (L + 1)),("last",some (L + 2)),("within",none)]) (own := fun L => [L + 1,L + 2]) (k := 5) F rfl rfl (by decide) (show ∀ x ∈ (["works"] : List Str),(dpOf "_law_least_lateness").scope.names.lookup x = some .local by decide +kernel) (fun vals h => ?_) (fun L => rfl) (fun L i x h => ?_) (by decide) (fun L x c h => ?_) (fun L => ⟨F.kind,F.globals,F.builtins,show (["works", "most", "first", "last", "within"] : List Str).Nodup by decide,by simp,by simp⟩) (fun L a h => by simp only [List.mem_cons,List.not_mem_nil,or_false] at h; rcases h with rfl | rfl <;> exact Nat.lt_add_of_pos_right (Nat.succ_pos _)) fun A L hA K => ?_
  · obtain ⟨a0,rfl⟩ := len1 h
    rfl
  · rcases i with _ | i
    · simp at h; subst h; rfl
    simp at h
  · simp at h
    rcases h with ⟨rfl,rfl⟩ | ⟨rfl,rfl⟩ <;> rfl
  have hu : A.units < cLine := by have := hA.units; exact o0 this
  exact (zb (zh K (q0 ze) rfl rfl) (zb (xg K hA.handled (ko K hA.handled (za K rfl rfl) n (own := ["row", "due", "hours"]) (cap := []) (capS := []) (cl := []) rfl rfl (fun p i h => by simp at h) (xc K rfl (show (["row", "due", "hours"] : List Str).Nodup by decide) (by simp [qt])) (fun Cc K => (ui K hA.handled (.cons (z9 K rfl rfl) rfl (.cons (z9 K rfl rfl) rfl (.cons (z9 K rfl rfl) rfl .nil))))) (fun Cc K => jo) (fun Cc K => (za K rfl rfl))) (uj K rfl rfl rfl (by simp)) (zb (xg K hA.handled (ko K hA.handled (za K rfl rfl) n (own := ["row", "due", "hours"]) (cap := []) (capS := []) (cl := []) rfl rfl (fun p i h => by simp at h) (xc K rfl (show (["row", "due", "hours"] : List Str).Nodup by decide) (by simp [qt])) (fun Cc K => (ui K hA.handled (.cons (z9 K rfl rfl) rfl (.cons (z9 K rfl rfl) rfl (.cons (z9 K rfl rfl) rfl .nil))))) (fun Cc K => jo) (fun Cc K => (za K rfl rfl))) (uj K rfl rfl rfl (by simp)) (zb (xh K hA.handled (za K rfl rfl) n (own := ["row", "due", "hours"]) (cap := [2,3]) (capS := [("first",some (L + 1)),("last",some (L + 2))]) (cl := [("last",L + 2),("first",L + 1)]) rfl rfl rfl rfl rfl (cap2 rfl rfl) (xc K rfl (show (["row", "due", "hours", "first", "last"] : List Str).Nodup by decide) (by simp [qt])) (fun Cc K => (ui K hA.handled (.cons (z9 K rfl rfl) rfl (.cons (z9 K rfl rfl) rfl (.cons (z9 K rfl rfl) rfl .nil))))) (fun Cc K => (zde (qo (zf K (za K rfl rfl) (z6 K rfl rfl rfl) ge_ok) (qi (zf K (za K rfl rfl) (z6 K rfl rfl rfl) (uv hu)))))) (fun Cc K => (za K rfl rfl))) (zb (z7 (zf K (za K rfl rfl) (q0 ze) (xn hu)) (zb (ql (qg K qe q9 PySem.F.slot_list_append zx (za K rfl rfl) (zc K (zn K (qh K (G.b _ (by decide)) rfl (by decide) rfl (zc K (za K rfl rfl) ze) (sum_ok hA.handled)) (zn K (zn K (z6 K rfl rfl rfl) (z6 K rfl rfl rfl) ks) zg qx) ks) ze) (qu K)) rfl) zi) zi) zi)) n) zi) n) (zb (zp (qh K (G.b _ (by decide)) rfl (by decide) rfl (zc K (za K rfl rfl) ze) (zin hA.handled))) zi)))
end Mine
end
section
set_option maxHeartbeats 2000000
namespace Mine
open PySem PyProof.Rows
theorem zik : PlainAttrs "bytes" :=
  ⟨⟨"bytes.__getattribute__",by rw [typeLookup_type,builtinLookup_eq_fast]; kernel_rfl,by decide +kernel⟩,by rw [typeLookup_type,builtinLookup_eq_fast]; kernel_rfl⟩
theorem binds2d {C : Cx} {fd : FuncData} {names : List Str} {dV : Value} (hdV : VR C.H0 [] (.tup [.none,.bool false]) dV) (hd : fd.defaults = dV)
    (h : ∀ a b : Value,∃ k : Option (Array Value)→Sem (List (Str × Value)),bindArgs fd ⟨[a,b],[]⟩ = seqItems? fd.defaults >>= k∧k (some #[.none,.bool false]) = pure (names.zip [a,b,.bool false])) : Binds C fd [] names 2 [.bool false] := by
  intro s vals kvals hb hl hk
  have : kvals = [] := List.length_eq_zero_iff.mp hk
  subst this
  simp only [List.append_nil] at hl ⊢
  obtain ⟨a,b,rfl⟩ := len2 hl
  obtain ⟨k,h1,h2⟩ := h a b
  obtain ⟨t,vs,n,e,g,hv⟩ := hdV.tupItems
  obtain ⟨x,y,e2⟩ := len2 (vals := vs.toList) (by have := hv.1; simpa using this.symm)
  rw [e2] at hv
  have hx := hv.uncons
  have hy := hx.2.uncons
  cases hx.1; cases hy.1
  have : vs = #[.none,.bool false] := by rw [← Array.toArray_toList (xs := vs),e2]
  subst this
  exact ⟨[.bool false],BindsTo.of_defaults (hd.trans e) (hb _ _ g) rfl h1 h2,.cons (.bool _) .nil⟩
theorem binds2e {C : Cx} {fd : FuncData} {names : List Str} {dV : Value} (hdV : VR C.H0 [] (.tup [.none]) dV) (hd : fd.defaults = dV)
    (h : ∀ a b : Value,∃ k : Option (Array Value)→Sem (List (Str × Value)),bindArgs fd ⟨[a,b],[]⟩ = seqItems? fd.defaults >>= k∧k (some #[.none]) = pure (names.zip [a,b])) : Binds C fd [] names 2 [] := by
  intro s vals kvals hb hl hk
  have : kvals = [] := List.length_eq_zero_iff.mp hk
  subst this
  simp only [List.append_nil] at hl ⊢
  obtain ⟨a,b,rfl⟩ := len2 hl
  obtain ⟨k,h1,h2⟩ := h a b
  obtain ⟨t,vs,n,e,g,hv⟩ := hdV.tupItems
  obtain ⟨x,e2⟩ := len1 (vals := vs.toList) (by have := hv.1; simpa using this.symm)
  rw [e2] at hv
  have hx := hv.uncons
  cases hx.1
  have : vs = #[.none] := by rw [← Array.toArray_toList (xs := vs),e2]
  subst this
  exact ⟨[],BindsTo.of_defaults (hd.trans e) (hb _ _ g) rfl h1 h2,.nil⟩
noncomputable def zcj (n : Nat) : LM Fl := (seqS (asgS 2 (zr (k9 n) (zl (ldE 0) (zl (zd (.bool false)) nilL)))) (seqS (iteL (cmpT zf3 (ldE 1) (zd .none)) (seqS (zcm (cmpT eqV (zr lenF (zl (ldE 1) nilL)) (zd (.int 2)))) (seqS (retS (q5 ya j6 (ldE 2) (zl (zr kf (zl (zd (.bytes [43,47])) (zl (ldE 1) nilL))) nilL))) zm)) zm) (seqS (retS (ldE 2)) zm)))
noncomputable abbrev kl (n : Nat) : LF := runF 3 2 [] (zcj n)
theorem zgi {C : Cx} {d : Nat} {f : Addr} {dV : Value} (n : Nat) (G : GOk C) {f_b2a_base64 : Addr} (h_b2a_base64 : C.mg "b2a_base64" = some (.ref f_b2a_base64)∧FnOk C d f_b2a_base64 ["newline"] (k9 n)) (H : FAt C "b64encode" f dV .none) (hdV : VR C.H0 [] (.tup [.none]) dV) : FnOk C (d + 1) f [] (kl n) := by
  obtain ⟨doc,pm,an,cdv,ct,F⟩ := H.fn
  refine vx (names := ["s", "altchars", "encoded"]) F rfl (show ∀ x ∈ (dpOf "b64encode").scope.names,x.2≠.cell by decide +kernel) (by decide) (show ∀ x ∈ (["s", "altchars", "encoded"] : List Str),(dpOf "b64encode").scope.names.lookup x = some .local by decide +kernel) (binds2e hdV rfl fun a b => ?_) (by decide) fun A L hA K => ?_
  · exact ⟨_,rfl,rfl⟩
  have hu : A.units < cLine := by have := hA.units; exact o0 this
  exact (zb (zh K (zfr K h_b2a_base64.1 rfl (zc K (za K rfl rfl) ze) xz hA h_b2a_base64.2) rfl rfl) (zb (z7 (zf K (za K rfl rfl) zd4 ziq) (zb (zdf (zf K (qh K (G.b _ (by decide)) rfl (by decide) rfl (zc K (za K rfl rfl) ze) yg) zg (vl hu))) (zb (zp (qg K zdk zik zg6 zj5 (za K rfl rfl) (zc K (snd_mk K (G.b _ (by decide)) rfl (zc K vk (zc K (za K rfl rfl) ze))) ze) zah)) zi)) zi) (zb (zp (za K rfl rfl)) zi)))
noncomputable def zck (n : Nat) : LM Fl := (seqS (asgS 0 (zr (qk n) (zl (ldE 0) nilL))) (seqS (iteL (cmpT zf3 (ldE 1) (zd .none)) (seqS (asgS 1 (zr (qk n) (zl (ldE 1) nilL))) (seqS (zcm (cmpT eqV (zr lenF (zl (ldE 1) nilL)) (zd (.int 2)))) (seqS (asgS 0 (q5 ya j6 (ldE 0) (zl (zr kf (zl (ldE 1) (zl (zd (.bytes [43,47])) nilL))) nilL))) zm))) zm) (seqS (retS (zr (va n) (zl (ldE 0) (zl (ldE 2) nilL)))) zm)))
noncomputable abbrev j0 (n : Nat) : LF := runF 3 2 [.bool false] (zck n)
theorem zgj {C : Cx} {d : Nat} {f : Addr} {dV : Value} (n : Nat) (G : GOk C) {f_bytes_from_decode_data : Addr} (h_bytes_from_decode_data : C.mg "_bytes_from_decode_data" = some (.ref f_bytes_from_decode_data)∧FnOk C d f_bytes_from_decode_data [] (qk n)) {f_a2b_base64 : Addr} (h_a2b_base64 : C.mg "a2b_base64" = some (.ref f_a2b_base64)∧FnOk C d f_a2b_base64 ["strict_mode"] (va n)) (H : FAt C "b64decode" f dV .none) (hdV : VR C.H0 [] (.tup [.none,.bool false]) dV) : FnOk C (d + 1) f [] (j0 n) := by
  obtain ⟨doc,pm,an,cdv,ct,F⟩ := H.fn
  refine vx (names := ["s", "altchars", "validate"]) F rfl (show ∀ x ∈ (dpOf "b64decode").scope.names,x.2≠.cell by decide +kernel) (by decide) (show ∀ x ∈ (["s", "altchars", "validate"] : List Str),(dpOf "b64decode").scope.names.lookup x = some .local by decide +kernel) (binds2d hdV rfl fun a b => ?_) (by decide) fun A L hA K => ?_
  · exact ⟨_,rfl,rfl⟩
  have hu : A.units < cLine := by have := hA.units; exact o0 this
  exact (zb (zh K (qd K h_bytes_from_decode_data.1 rfl (zc K (za K rfl rfl) ze) hA h_bytes_from_decode_data.2) rfl rfl) (zb (z7 (zf K (za K rfl rfl) zd4 ziq) (zb (zh K (qd K h_bytes_from_decode_data.1 rfl (zc K (za K rfl rfl) ze) hA h_bytes_from_decode_data.2) rfl rfl) (zb (zdf (zf K (qh K (G.b _ (by decide)) rfl (by decide) rfl (zc K (za K rfl rfl) ze) yg) zg (vl hu))) (zb (zh K (qg K zdk zik zg6 zj5 (za K rfl rfl) (zc K (snd_mk K (G.b _ (by decide)) rfl (zc K (za K rfl rfl) (zc K vk ze))) ze) zah) rfl rfl) zi))) zi) (zb (zp (zfr K h_a2b_base64.1 rfl (zc K (za K rfl rfl) ze) (za K rfl rfl) hA h_a2b_base64.2)) zi)))
end Mine
end
section
set_option maxHeartbeats 2000000
namespace Mine
open PySem PyProof.Rows
theorem OkA.le {d d' : Nat} {A : Around} (h : OkA d A) (hd : d'≤d) : OkA d' A := ⟨h.handled,by have := h.depth; exact o2 hd this,by have := h.units; exact o3 hd this⟩
noncomputable def zh1 (n : Str) : List Stmt→List Stmt
  | [] => []
  | .ClassDef m _ _ b _ _ _ _ _ _ _ :: r => if m == n then b else zh1 n r
  | _ :: r => zh1 n r
noncomputable def mpOf (n : Str) : DP := dpIn n (zh1 "_netrclex" PySem.Challenge.pw_oy0116_01.main.body)
noncomputable abbrev mdOf (n : Str) (doc pm : Value) (an : Option Addr) (cdv ct : Value) : FuncData := PySem.W.fnOf n ("_netrclex."++n) (mpOf n).params (mpOf n).body (mpOf n).scope .none .none doc pm an cdv ct
noncomputable abbrev MAt (C : Cx) (n : Str) (f : Addr) : Prop := ∃ doc pm an cdv ct,FnAt C f (mdOf n doc pm an cdv ct)
structure Lex (C : Cx) (c fi fr fg fp : Addr) : Prop where
  get_lineno : ClsGet C.K c "lineno"
  get_instream : ClsGet C.K c "instream"
  get_whitespace : ClsGet C.K c "whitespace"
  get_pushback : ClsGet C.K c "pushback"
  set_lineno : ClsSet C.K c "lineno"
  set_instream : ClsSet C.K c "instream"
  set_whitespace : ClsSet C.K c "whitespace"
  set_pushback : ClsSet C.K c "pushback"
  b_read_char : ClsBound C.K c "_read_char" fr
  m_read_char : ClsMeth C.K c "_read_char" fr
  m_get_token : ClsMeth C.K c "get_token" fg
  m_push_token : ClsMeth C.K c "push_token" fp
  f_init : MAt C "__init__" fi
  f_read_char : MAt C "_read_char" fr
  f_get_token : MAt C "get_token" fg
  f_push_token : MAt C "push_token" fp
noncomputable def rdP : DP := dpIn "read" (dpOf "_law_plan").body
noncomputable def rdD : FDat := ⟨"read", "_law_plan.<locals>.read",rdP.params,.stmts rdP.body,rdP.scope⟩
noncomputable def zkq (n : Nat) (c : Nat) : LM Fl := seqS (retS (iteL (cmpT neV (zlj c) (lstE nilL)) (q5 qf popF (zlj c) (zl (zd (.int 0)) nilL)) (zd (.str [])))) zm
noncomputable abbrev zii (n : Nat) (c : Nat) : LF := runF 1 1 [] (zkq n c)
theorem read_ok {C : Cx} {A : Around} {fm : Fm} {d : Nat} (n : Nat) (G : GOk C) (hA : OkA (d + 1) A) (K : FmOk fm) : RdOk C A fm rdD "signs" (zii n) := by
  intro c i ia μ loc g g' s args vals v R hi hg hf hv
  refine rd_call (names := ["count"]) hA K (body := rdP.body) rfl (show ∀ x ∈ rdP.scope.names,x.2≠.cell by decide +kernel) rfl rfl rfl (by decide) (show ∀ x ∈ (["count"] : List Str),rdP.scope.names.lookup x = some .local by decide +kernel) (fun fd hfd vals h => ?_) (by decide) (fun A fd L f ca hfd hclo hA K => ?_) R hi hg hf hv
  · obtain ⟨name,qualname,params,body,scope,globals,closure,defaults,kwdefaults,doc,pm,an,code,ct,bu⟩ := fd
    obtain ⟨h1,h2,h3,h4,h5,h6,h7,h8,h9⟩ := hfd
    simp only at h1 h2 h3 h4 h5 h6 h7 h8 h9
    subst h1 h2 h3 h4 h5 h6 h7 h8 h9
    obtain ⟨a,rfl⟩ := len1 h
    rfl
  · obtain ⟨name,qualname,params,body,scope,globals,closure,defaults,kwdefaults,doc,pm,an,code,ct,bu⟩ := fd
    obtain ⟨h1,h2,h3,h4,h5,h6,h7,h8,h9⟩ := hfd
    simp only at h1 h2 h3 h4 h5 h6 h7 h8 h9 hclo
    subst h1 h2 h3 h4 h5 h6 h7 h8 h9 hclo
    have hu : A.units < cLine := by have := hA.units; exact o0 this
    exact zb (zp (vj (zf K (zfq K (by simp) rfl rfl) (q0 ze) (xn hu)) (qg K qe q9 PySem.F.slot_list_pop yl (zfq K (by simp) rfl rfl) (zc K zg ze) (zks K)) (qq rfl))) zi
noncomputable def init_L (n : Nat) (c : Addr) : LM Fl := (seqS (wh c "lineno" (zd (.int 1)) (ldE 0)) (seqS (wh c "instream" (ldE 1) (ldE 0)) (seqS (wh c "whitespace" (zd (.str [10,9,13,32])) (ldE 0)) (seqS (wh c "pushback" (lstE nilL) (ldE 0)) zm))))
noncomputable abbrev zf4 (n : Nat) (c : Addr) : LF := runF 2 2 [] (init_L n c)
theorem init_ok {C : Cx} {d : Nat} (n : Nat) (G : GOk C) {c fi fr fg fp : Addr} (X : Lex C c fi fr fg fp) : FnOk C (d + 1) fi [] (zf4 n c) := by
  obtain ⟨doc,pm,an,cdv,ct,F⟩ := X.f_init
  refine vx (names := ["self", "fp"]) F rfl (show ∀ x ∈ (mpOf "__init__").scope.names,x.2≠.cell by decide +kernel) (by decide) (show ∀ x ∈ (["self", "fp"] : List Str),(mpOf "__init__").scope.names.lookup x = some .local by decide +kernel) (binds0 fun vals h => ?_) (by decide) fun A L hA K => ?_
  · obtain ⟨a0,a1,rfl⟩ := len2 h
    rfl
  have hu : A.units < cLine := by have := hA.units; exact o0 this
  exact (zb (wf K X.set_lineno zg (za K rfl rfl)) (zb (wf K X.set_instream (za K rfl rfl) (za K rfl rfl)) (zb (wf K X.set_whitespace (qq rfl) (za K rfl rfl)) (zb (wf K X.set_pushback (q0 ze) (za K rfl rfl)) zi))))
noncomputable def wl (n : Nat) (c : Addr) : LM Fl := (seqS (asgS 1 (readE rdD "signs" (zii n) (wx c "instream" (ldE 0)) 1)) (seqS (iteL (cmpT eqV (ldE 1) (zd (.str [10]))) (seqS (ug c "lineno" addV (ldE 0) (zd (.int 1))) zm) zm) (seqS (retS (ldE 1)) zm)))
noncomputable abbrev zy (n : Nat) (c : Addr) : LF := runF 2 1 [] (wl n c)
theorem zft {C : Cx} {d : Nat} (n : Nat) (G : GOk C) {c fi fr fg fp : Addr} (X : Lex C c fi fr fg fp) : FnOk C (d + 2) fr [] (zy n c) := by
  obtain ⟨doc,pm,an,cdv,ct,F⟩ := X.f_read_char
  refine vx (names := ["self", "ch"]) F rfl (show ∀ x ∈ (mpOf "_read_char").scope.names,x.2≠.cell by decide +kernel) (by decide) (show ∀ x ∈ (["self", "ch"] : List Str),(mpOf "_read_char").scope.names.lookup x = some .local by decide +kernel) (binds0 fun vals h => ?_) (by decide) fun A L hA K => ?_
  · obtain ⟨a0,rfl⟩ := len1 h
    rfl
  have hu : A.units < cLine := by have := hA.units; exact o4 this
  exact (zb (zh K (snd_read (wg X.get_instream (za K rfl rfl)) (read_ok n G hA K)) rfl rfl) (zb (z7 (zf K (za K rfl rfl) (qq rfl) (vl hu)) (zb (zg4 K X.get_lineno X.set_lineno (za K rfl rfl) zg zex) zi) zi) (zb (zp (za K rfl rfl)) zi)))
noncomputable def wt (n : Nat) (c fr : Addr) : LM Fl := (seqS (iteL (truT truV (wx c "pushback" (ldE 0))) (seqS (retS (q5 qf popF (wx c "pushback" (ldE 0)) (zl (zd (.int 0)) nilL))) zm) zm) (seqS (asgS 1 (zd (.str []))) (seqS (asgS 2 (iterE c fr "_read_char" (ldE 0))) (seqS (forC n (zy n c) fr (ldE 2) (stS 3) (seqS (iteL (cmpT inV (ldE 3) (wx c "whitespace" (ldE 0))) (seqS za0 zm) zm) (seqS (iteL (cmpT eqV (ldE 3) (zd (.str [34]))) (seqS (forC n (zy n c) fr (ldE 2) (stS 3) (seqS (iteL (cmpT eqV (ldE 3) (zd (.str [34]))) (seqS (retS (ldE 1)) zm) (seqS (iteL (cmpT eqV (ldE 3) (zd (.str [92]))) (seqS (asgS 3 (vo c "_read_char" (zy n c) (ldE 0) nilL)) zm) zm) zm)) (seqS (asgS 1 (binE addV (ldE 1) (ldE 3))) zm))) zm) (seqS (iteL (cmpT eqV (ldE 3) (zd (.str [92]))) (seqS (asgS 3 (vo c "_read_char" (zy n c) (ldE 0) nilL)) zm) zm) (seqS (asgS 1 (binE addV (ldE 1) (ldE 3))) (seqS (forC n (zy n c) fr (ldE 2) (stS 3) (seqS (iteL (cmpT inV (ldE 3) (wx c "whitespace" (ldE 0))) (seqS (retS (ldE 1)) zm) (seqS (iteL (cmpT eqV (ldE 3) (zd (.str [92]))) (seqS (asgS 3 (vo c "_read_char" (zy n c) (ldE 0) nilL)) zm) zm) zm)) (seqS (asgS 1 (binE addV (ldE 1) (ldE 3))) zm))) zm)))) zm))) (seqS (retS (ldE 1)) zm)))))
noncomputable abbrev qc (n : Nat) (c fr : Addr) : LF := runF 4 1 [] (wt n c fr)
theorem zf6 {C : Cx} {d : Nat} (n : Nat) (G : GOk C) {c fi fr fg fp : Addr} (X : Lex C c fi fr fg fp) (h_read_char : FnOk C d fr [] (zy n c)) : FnOk C (d + 2) fg [] (qc n c fr) := by
  obtain ⟨doc,pm,an,cdv,ct,F⟩ := X.f_get_token
  refine vx (names := ["self", "token", "fiter", "ch"]) F rfl (show ∀ x ∈ (mpOf "get_token").scope.names,x.2≠.cell by decide +kernel) (by decide) (show ∀ x ∈ (["self", "token", "fiter", "ch"] : List Str),(mpOf "get_token").scope.names.lookup x = some .local by decide +kernel) (binds0 fun vals h => ?_) (by decide) fun A L hA K => ?_
  · obtain ⟨a0,rfl⟩ := len1 h
    rfl
  have hu : A.units < cLine := by have := hA.units; exact o4 this
  have hA0 : OkA d A := hA.le (Nat.le_succ d)
  exact (zb (z7 (qa (wg X.get_pushback (za K rfl rfl)) xe) (zb (zp (qg K qe q9 PySem.F.slot_list_pop yl (wg X.get_pushback (za K rfl rfl)) (zc K zg ze) (zks K))) zi) zi) (zb (zh K (qq rfl) rfl rfl) (zb (zh K (snd_iter K X.b_read_char (G.b _ (by decide)) rfl (za K rfl rfl)) rfl rfl) (zb (zd5 K hA h_read_char (za K rfl rfl) (z9 K rfl rfl) (zb (z7 (zf K (za K rfl rfl) (wg X.get_whitespace (za K rfl rfl)) in_ok) (zb kt zi) zi) (zb (z7 (zf K (za K rfl rfl) (qq rfl) (vl hu)) (zb (zd5 K hA h_read_char (za K rfl rfl) (z9 K rfl rfl) (zb (z7 (zf K (za K rfl rfl) (qq rfl) (vl hu)) (zb (zp (za K rfl rfl)) zi) (zb (z7 (zf K (za K rfl rfl) (qq rfl) (vl hu)) (zb (zh K (v5 K X.m_read_char (za K rfl rfl) hA0 h_read_char) rfl rfl) zi) zi) zi)) (zb (yo K (za K rfl rfl) rfl rfl zex) zi)) n) zi) (zb (z7 (zf K (za K rfl rfl) (qq rfl) (vl hu)) (zb (zh K (v5 K X.m_read_char (za K rfl rfl) hA0 h_read_char) rfl rfl) zi) zi) (zb (yo K (za K rfl rfl) rfl rfl zex) (zb (zd5 K hA h_read_char (za K rfl rfl) (z9 K rfl rfl) (zb (z7 (zf K (za K rfl rfl) (wg X.get_whitespace (za K rfl rfl)) in_ok) (zb (zp (za K rfl rfl)) zi) (zb (z7 (zf K (za K rfl rfl) (qq rfl) (vl hu)) (zb (zh K (v5 K X.m_read_char (za K rfl rfl) hA0 h_read_char) rfl rfl) zi) zi) zi)) (zb (yo K (za K rfl rfl) rfl rfl zex) zi)) n) zi)))) zi)) n) (zb (zp (za K rfl rfl)) zi)))))
noncomputable def zal (n : Nat) (c : Addr) : LM Fl := (seqS (ja (q5 qf zt (wx c "pushback" (ldE 0)) (zl (ldE 1) nilL))) zm)
noncomputable abbrev jh (n : Nat) (c : Addr) : LF := runF 2 2 [] (zal n c)
theorem zee {C : Cx} {d : Nat} (n : Nat) (G : GOk C) {c fi fr fg fp : Addr} (X : Lex C c fi fr fg fp) : FnOk C (d + 1) fp [] (jh n c) := by
  obtain ⟨doc,pm,an,cdv,ct,F⟩ := X.f_push_token
  refine vx (names := ["self", "token"]) F rfl (show ∀ x ∈ (mpOf "push_token").scope.names,x.2≠.cell by decide +kernel) (by decide) (show ∀ x ∈ (["self", "token"] : List Str),(mpOf "push_token").scope.names.lookup x = some .local by decide +kernel) (binds0 fun vals h => ?_) (by decide) fun A L hA K => ?_
  · obtain ⟨a0,a1,rfl⟩ := len2 h
    rfl
  have hu : A.units < cLine := by have := hA.units; exact o0 this
  exact (zb (ql (qg K qe q9 PySem.F.slot_list_append zx (wg X.get_pushback (za K rfl rfl)) (zc K (za K rfl rfl) ze) (qu K)) rfl) zi)
end Mine
end
section
namespace Mine
open PySem PyProof.Rows PySem.W
noncomputable abbrev fnDat (name qual : Str) (params : Arguments) (body : FuncBody) (scope : Scope) (cl : List (Str × Addr)) (pm cdv ct doc : Value) : FuncData :=
  { name,qualname := qual,params,body,scope,globals := mainGlobals,closure := cl,defaults := .none,kwdefaults := .none,doc,pyModule := pm,annotations := none,code := cdv,closureTuple := ct,builtins := builtinsNs }
noncomputable def ziv (body : FuncBody) : Sem Value := match body with
  | .stmts b => (match docOf b with | some s => mkText s | none => pure .none)
  | .expr _ => pure .none
theorem zfh {M : Model} {A : Around} {E : Value→Shared→Prop} {s : Shared} {body : FuncBody} {Q : Value→Shared→Prop} (h : ∀ v tk,Q v { s with toks := tk }) : wpAny M A (ziv body) Q E s := by
  unfold ziv
  split
  · split
    · exact wpAny_mkText (h _ _)
    · exact wpAny_pure (h _ s.toks)
  · exact wpAny_pure (h _ s.toks)
theorem zhj (name qual : Str) (params : Arguments) (body : FuncBody) (scope : Scope) (env : Env) (dV kV : Value) (ann : Option Addr) (pos : Pos) (firstLine : Nat) : makeTail name qual params body scope env dV kV ann pos firstLine = (do
    let closure ← closureFor scope env
    let closureTuple ← if closure.isEmpty then pure .none else newTextTuple ((closure.mergeSort fun a b => a.1.cps.toList≤b.1.cps.toList).map (.ref ·.2))
    let code ← functionCode env pos firstLine name qual params scope body
    let bu ← builtinsFor env.globals env.builtins
    let pm ← nsGet env.globals "__name__"
    let doc ← ziv body
    newObj (.type "function") (.func { name,qualname := qual,params,body,scope,globals := env.globals,closure,closureTuple,code,builtins := bu,defaults := dV,kwdefaults := kV,annotations := ann,pyModule := pm.getD .none,doc })) := by
  unfold makeTail ziv
  cases body <;> rfl
theorem zdv {h : Heap} {c' : Addr} {qual : Str} (hrec : h.CodeRec (.ref c') qual) (hx : ∃ P',h.TableAt c' P' #[]) : CodeImm h (.ref c') qual := by
  obtain ⟨c,o,vs,t,e,ho,hd,hv⟩ := hrec
  injection e
  obtain ⟨P',⟨o',vs',ho',hc,_⟩,_⟩ := hx
  rw [ho] at ho'; cases ho'
  exact ⟨_,o,vs,t,rfl,ho,.inr ⟨by rw [hc]; rfl,vs,hd⟩,hd,hv⟩
section
variable {M : Model} {A : Around} {E : Value→Shared→Prop} {s : Shared} {name qual : Str} {params : Arguments} {body : FuncBody} {scope : Scope} {env : Env} {c P : Addr} {ps : Array Value} {pos : Pos} {firstLine : Nat} {mg : Str→Option Value}
  {clos : List (Str × Addr)} {Q : Value→Shared→Prop}
theorem zgq (hcl : closureFor scope env = pure clos) (hge0 : env.globals = mainGlobals) (hge1 : env.builtins = builtinsNs) (hg : s.heap.Ns mainGlobals mg) (hcode : env.code = .ref c) (C : CodeHd s.heap c P) (hP : s.heap.get? P = some (tabObj ps)) (ht : TriplesOk ps.toList)
    (hnf : codeAmong pos ps.toList = none) (hgP : mainGlobals≠P) (hb : s.heap.BuiltinsAt mg P)
    (h : ∀ c' ctv pm doc h' tk,Heap.ExtBut P s.heap h'→s.heap.objs.size≤c'→c' < h'.objs.size→CodeImm h' (.ref c') qual→h'.get? P = some (tabObj (ps++#[rawInt pos.line,rawInt pos.col,.ref c'])) →
      Q (.ref h'.objs.size) { s with heap := h'.push { cls := .type "function",data := .func (fnDat name qual params body scope clos pm (.ref c') ctv doc) },toks := tk }) :
    wpAny M A (makeTail name qual params body scope env .none .none none pos firstLine) Q E s := by
  obtain ⟨bm,ob,hbm,hne0,_,hneP,hbo,hcls,hdict,hdata⟩ := hb
  rw [zhj,hcl,hge0]
  refine wpAny_bind (wpAny_pure ?_)
  cases clos with
  | nil =>
    simp only [List.isEmpty_nil,if_true]
    refine wpAny_bind (wpAny_pure ?_)
    refine wpAny_bind (wpAny_functionCodeX hcode (C.code hP ht) (C.tab hP) hnf fun c' h' tk hx hge hlt _ hrec htb hpx => ?_)
    have hg' := hg.extBut hx hgP
    refine wpAny_bind (wpAny_builtinsFor hg' hbm hne0 (hx _ _ hneP hbo) hcls hdict hdata ?_)
    refine wpAny_bind (wpAny_nsGet hg' ?_)
    refine wpAny_bind (zfh fun doc tk' => wpAny_newObj_type (h c' .none _ doc h' tk' hx hge hlt (zdv hrec (hpx.imp fun _ q => q.2.2)) htb.2) (by size_fits))
  | cons q r =>
    simp only [List.isEmpty_cons,Bool.false_eq_true,if_false]
    refine wpAny_bind (wpAny_newTextTuple ?_)
    refine wpAny_bind (wpAny_functionCodeX hcode ((C.keeps fun b o e => Heap.get?_push_of_some _ e).code (Heap.get?_push_of_some _ hP) ht) ((C.keeps fun b o e => Heap.get?_push_of_some _ e).tab (Heap.get?_push_of_some _ hP)) hnf fun c' h' tk hx hge hlt _ hrec htb hpx => ?_)
    have hg' := (hg.push _).extBut hx hgP
    have hx' : Heap.ExtBut P s.heap h' := fun b o hb' e => hx b o hb' (Heap.get?_push_of_some _ e)
    have hge' : s.heap.objs.size≤c' := Nat.le_trans (by rw [Heap.size_push]; exact o465 hpx) hge
    refine wpAny_bind (wpAny_builtinsFor hg' hbm hne0 (hx' _ _ hneP hbo) hcls hdict hdata ?_)
    refine wpAny_bind (wpAny_nsGet hg' ?_)
    refine wpAny_bind (zfh fun doc tk' => wpAny_newObj_type (h c' _ _ doc h' tk' hx' hge' hlt (zdv hrec (hpx.imp fun _ q => q.2.2)) htb.2) (by size_fits))
theorem zbd (hcl : closureFor scope env = pure clos) (hge0 : env.globals = mainGlobals) (hge1 : env.builtins = builtinsNs) (hg : s.heap.Ns mainGlobals mg) (hcode : env.code = .ref c) (C : CodeHd s.heap c P) (hP : s.heap.get? P = some (tabObj ps)) (ht : TriplesOk ps.toList)
    (hnf : codeAmong pos ps.toList = none) (hgP : mainGlobals≠P) (hb : s.heap.BuiltinsAt mg P)
    (h : ∀ c' ctv pm doc h' tk,Heap.ExtBut P s.heap h'→s.heap.objs.size≤c'→c' < h'.objs.size→CodeImm h' (.ref c') qual→h'.get? P = some (tabObj (ps++#[rawInt pos.line,rawInt pos.col,.ref c'])) →
      Q (.ref h'.objs.size) { s with heap := h'.push { cls := .type "function",data := .func (fnDat name qual params body scope clos pm (.ref c') ctv doc) },toks := tk }) :
    wpAny M A (makeFunction name qual params body scope env [] [] [] pos firstLine) Q E s := by
  rw [makeFunction_eq]
  simp only [List.zip_nil_right,List.filterMap_nil,List.isEmpty_nil,if_true,pure_bind]
  exact zgq hcl hge0 hge1 hg hcode C hP ht hnf hgP hb h
end
set_option tactic.hygienic true in
theorem uz {pos pos' : Pos} {c : Value} (l : List Value) (h : TriplesOk l) (hn : codeAmong pos' l = none) (hne : pos'.line≠pos.line) : codeAmong pos' (l++[rawInt pos.line,rawInt pos.col,c]) = none := by
  fun_induction TriplesOk l with
  | case1 =>
    simp only [List.nil_append,codeAmong,rawInt]
    rw [if_neg]
    simp; intro q; exact absurd (by exact_mod_cast q.symm) hne
  | case2 a t b u x rest ih =>
    simp only [List.cons_append,codeAmong] at hn ⊢
    split at hn
    · cases hn
    · rename_i hc; rw [if_neg hc]; exact ih h hn
  | case3 l h1 h2 => exact h.elim
theorem TabOk.snoc {ls : List Nat} {ps : Array Value} {pos : Pos} {c : Value} (H : TabOk ls ps) : TabOk (pos.line :: ls) (ps++#[rawInt pos.line,rawInt pos.col,c]) := by
  refine ⟨?_,fun pos' hp => ?_⟩
  · rw [Array.toList_append]; exact TriplesOk_snoc _ _ _ _ H.1
  · rw [Array.toList_append]
    refine uz _ H.1 (H.2 pos' fun q => hp (List.mem_cons_of_mem _ q)) fun q => hp ?_
    rw [q]; exact List.mem_cons_self ..
noncomputable def BmAt (C : Cx) : Prop := ∃ bm ob,C.mg "__builtins__" = some (.ref bm)∧bm≠builtinsNs∧C.H0.get? bm = some ob∧ob.cls = .type "module"∧ob.dict = some builtinsNs∧ob.data = .plain
structure MkOk (C : Cx) (fm : Fm) (ti : Nat) (P : Addr) : Prop where
  pin : (ti,P) ∈ C.pin
  code : ∃ c,fm.env.code = .ref c∧CodeHd C.H0 c P
  bm : BmAt C
section
variable {C : Cx} {A : Around} {fm : Fm}
theorem zju {ti : Nat} {P : Addr} (Mk : MkOk C fm ti P) (K : FmOk fm) {μ : List Addr} {loc : List (Option V)} {g : List LObj} {s : Shared} (R : Rel C fm μ ⟨loc,g⟩ s) {ls : List Nat} (hg : g[ti]? = some (.tab ls))
    {name qual : Str} {params : Arguments} {body : FuncBody} {scope : Scope} {pos : Pos} {fl : Nat} {clos : List (Str × Addr)} (hl : pos.line ∉ ls) (hcl : closureFor scope fm.env = pure clos) {o : LObj}
    (ho : ∀ h' c' pm ctv doc,CodeImm h' (.ref c') qual→OR h' μ o { cls := .type "function",data := .func (fnDat name qual params body scope clos pm (.ref c') ctv doc) }) :
    wpAny C.M A (makeFunction name qual params body scope fm.env [] [] [] pos fl) (Post C fm VR μ s (.ref g.length) ⟨loc,g.set ti (.tab (pos.line :: ls))++[o]⟩) NoE s := by
  obtain ⟨hpin,⟨c,hcode,hhd⟩,bm,ob,b1,b2,b3,b4,b5,b6⟩ := Mk
  have hP := R.pins _ hpin
  obtain ⟨obP,e1,e2⟩ := R.objs _ _ _ hP hg
  revert e1; refine OR.inv e2 fun ps hT e1 => ?_
  have hmem : P ∈ μ := List.mem_of_getElem? hP
  have hP0 := R.mu0 P hmem
  have hgP : mainGlobals≠P := fun q => by
    obtain ⟨o,es,ep,e,_⟩ := C.g
    exact gne hP0 e q
  have hbP : bm≠P := fun q => by rw [q,hP0] at b3; cases b3
  have hbG : bm≠mainGlobals := fun q => by
    obtain ⟨o,es,ep,e,hd,_⟩ := C.g
    rw [q,e] at b3; cases b3; rw [hd] at b6; cases b6
  refine zbd (mg := C.mg) hcl K.globals K.builtins (C.g.keeps R.base) hcode (hhd.keeps R.base) e1 hT.1 (hT.2 _ hl) hgP ⟨bm,ob,b1,b2,hbG,hbP,R.base _ _ b3,b4,b5,b6⟩ fun c' ctv pm doc h' tk hx hge hlt hci htb => ?_
  obtain ⟨m,hn,hso⟩ := R.ns
  obtain ⟨R1,S1⟩ := R.setObjN K (tk := tk) hso hP (hn.extBut hx (Ne.symm (R.muNeL hmem))) (fun b o q _ e => hx b o q e) htb (.tab (hT.snoc (pos := pos) (c := .ref c')))
  obtain ⟨R2,S2⟩ := R1.newObj (tk := tk) (h' := h'.push { cls := .type "function",data := .func (fnDat name qual params body scope clos pm (.ref c') ctv doc) }) (fun b o e => Heap.get?_push_of_some _ e) (qz h') (Heap.get?_push_size _ rfl) (ho h' c' pm ctv doc hci)
  refine ⟨_,_,tk,rfl,S1.trans S2,R2,.ref ?_⟩
  have hlen : μ.length = g.length := R.len
  rw [← hlen,List.getElem?_append_right (Nat.le_refl _)]; simp
end
end Mine
end
section
namespace Mine
open PySem PyProof.Rows PySem.SeqAt PySem.W Builtin Builtin.ObjectAttr
theorem zf7 (self : Value) : refuseLoop self "__setattr__" [.type "function",.type "object"] = pure () := by kernel_rfl
theorem zle : mroOf (.type "function") = pure [.type "function",.type "object"] := by
  rw [mroOf_type]; kernel_rfl
theorem zds : Slot "function" "__setattr__" "object.__setattr__" :=
  .of (owner := "object") (n := "__setattr__") (by rw [typeLookup_type,builtinLookup_eq_fast]; kernel_rfl) (by decide +kernel) (by decide +kernel) (by decide +kernel)
    (by first | exact .inl (by decide +kernel) | exact .inr (by decide +kernel)) (by rw [isSubtype_type]; kernel_rfl)
theorem zje (a b c : Value) : argsOk "object.__setattr__" ⟨[a,b,c],[]⟩ := by unfold argsOk; kernel_rfl
section
variable {prog : Program} {w : World} {A : Around} {E : Value→Shared→Prop} {s : Shared}
theorem wp_setFn {sa : Addr} {fd : FuncData} {sl : Array (Option Value)} {v : Value} {Q : Unit→Shared→Prop} (ho : s.heap.get? sa = some ⟨.type "function",none,.func fd,sl⟩)
    (h : ∀ h' tk t es n,(∀ b o,b≠sa→s.heap.get? b = some o→h'.get? b = some o)→h'.get? sa = some ⟨.type "function",some s.heap.objs.size,.func fd,sl⟩→h'.get? s.heap.objs.size = some (dictOf es n) →
      es = putL "read" t (.str "read" tk) v []→∀ tk',Q () { s with heap := h',toks := tk' }) :
    wpAny (model prog w) A (setAttr (.ref sa) "read" v) Q E s := by
  have hT : ∀ t,({ s with toks := t } : Shared).TypeIs (.ref sa) "function" := fun t => ⟨_,ho,rfl⟩
  unfold setAttr
  refine wpAny_bind (wpAny_mkText ?_)
  refine wpAny_bind (wpAny_callSpecial?_slot (name := Str.ofString "__setattr__") (hT _) zds (wpAny_call_entry zds (hT _) PySem.F.store_object.entry ?_ (zje _ _ _)))
  rw [osa_eq,refuse_eq]
  refine wpAny_bind (wpAny_bind (wpAny_typeOf (hT _) (wpAny_bind ?_)))
  rw [zle]
  refine wpAny_pure ?_
  rw [zf7]
  refine wpAny_pure (wpAny_bind (wpAny_typeOf (hT _) (wpAny_bind ?_)))
  rw [xo]
  refine wpAny_pure (wpAny_bind (wpAny_pure ?_))
  show wpAny _ _ (storeInOwnDict (.ref sa) (.type "function") _ "read" v false) _ _ _
  unfold storeInOwnDict
  refine wpAny_bind (wpAny_pure ?_)
  rw [if_neg (by decide)]
  show wpAny _ _ (instanceDict sa true >>= _) _ _ _
  have hne : s.heap.objs.size≠sa := Nat.ne_of_gt (Heap.lt_size ho)
  have h1 : (s.heap.push emptyDict).get? sa = some ⟨.type "function",none,.func fd,sl⟩ := Heap.get?_push_of_some _ ho
  have h2 := Heap.get?_update_self (h := s.heap.push emptyDict) (fun o => { o with dict := some s.heap.objs.size }) h1 rfl
  have h3 : ((s.heap.push emptyDict).update sa fun o => { o with dict := some s.heap.objs.size }).get? s.heap.objs.size = some emptyDict :=
    ((Heap.SameBut.update ..).2 _ hne).trans (Heap.get?_push_size _ rfl)
  unfold instanceDict
  refine wpAny_bind (wpAny_bind (wpAny_loadPart ho ?_))
  refine wpAny_bind (wpAny_alloc (wpAny_bind (wpAny_update h1 ?_)))
  unfold dictMade
  show wpAny _ _ (pure (some s.heap.objs.size)) _ _ _
  refine wpAny_pure ?_
  show wpAny _ _ (storeInDict _ _ _ _) _ _ _
  unfold storeInDict
  refine wpAny_bind (wpAny_pure (wpAny_bind ?_))
  unfold nsSet
  refine wpAny_bind (wpAny_bind (wpAny_askSetting (wpAny_pure (wpAny_bind (wpAny_mkText (wpAny_bind (wpAny_loadPart h3 ?_)))))))
  dsimp only
  rw [if_neg (by decide)]
  refine wpAny_updatePart h3 ?_
  have h4 := Heap.get?_update_self (h := (s.heap.push emptyDict).update sa fun o => { o with dict := some s.heap.objs.size }) (Obj.putName "read" (PyData.keyHash w.params "read") (.str "read" (s.toks + 1)) v) h3 (by show (Obj.putName _ _ _ _ (dictOf [] 0)).isFreed = false; rw [putName_dict]; rfl)
  have e4 : Obj.putName "read" (PyData.keyHash w.params "read") (.str "read" (s.toks + 1)) v emptyDict = dictOf (putL "read" (PyData.keyHash w.params "read") (.str "read" (s.toks + 1)) v []) (putN "read" [] 0) := putName_dict ..
  rw [e4] at h4
  refine wpAny_bind (wpAny_lookBehind h4 (pastItsLine_dict (by show ([_] : List DictEntry).toArray.size≤_; rw [List.size_toArray,sizeLine_eq]; show 1≤_; exact o466)) ?_)
  refine wpAny_pure ⟨_,rfl,wpAny_pure ?_⟩
  refine h _ (s.toks + 1) _ _ _ (fun b o hb e => ?_) ?_ h4 rfl _
  · have hb' : b≠s.heap.objs.size := Nat.ne_of_lt (Heap.lt_size e)
    exact ((Heap.SameBut.update ..).2 _ hb').trans (((Heap.SameBut.update ..).2 _ hb).trans (Heap.get?_push_of_some _ e))
  · exact ((Heap.SameBut.update ..).2 _ (Ne.symm hne)).trans h2
end
noncomputable def defS (i ti ln : Nat) (o : LObj) : LM Fl := fun st => match st.g[ti]? with
  | some (.tab ls) => if ln ∈ ls then none else some (.next,⟨st.loc.set i (some (.ref st.g.length)),st.g.set ti (.tab (ln :: ls))++[o]⟩)
  | _ => none
noncomputable def lamE (ti ln : Nat) : LM V := fun st => match st.g[ti]? with
  | some (.tab ls) => if ln ∈ ls then none else some (.ref st.g.length,⟨st.loc,st.g.set ti (.tab (ln :: ls))++[.lam]⟩)
  | _ => none
noncomputable def zih (f ob : LM V) : LM Fl := zw f fun w => zw ob fun v st => match v with
  | .ref i => (match st.g[i]? with
    | some .lam => some (.next,⟨st.loc,(st.g++[LObj.dic [("read",w)]]).set i (.stf st.g.length)⟩)
    | _ => none)
  | _ => none
noncomputable def asgP (c : Nat) (f : LM V) : LM Fl := zw f fun v st => match st.g[c]? with
  | some .ecell => some (.next,{ st with g := st.g.set c (.cell v) })
  | some (.cell _) => some (.next,{ st with g := st.g.set c (.cell v) })
  | _ => none
section
variable {C : Cx} {A : Around} {fm : Fm} {d : Nat}
set_option tactic.hygienic true in
theorem snd_def {ti : Nat} {P ca : Addr} (Mk : MkOk C fm ti P) (K : FmOk fm) {name x : Str} {params : Arguments} {body : List Stmt} {scope : Scope} {pos : Pos} {i c : Nat} {q : Str} (hx : fm.slots[i]? = some (name,none)) (hl : fm.env.kindOf name = some .local)
    (hpin : (c,ca) ∈ C.pin) (hcl : closureFor scope fm.env = pure [(x,ca)]) (hq : qualnameIn fm.env name name = q) (hd0 : params.defaults = []) (hk0 : params.kw_defaults = []) (ha : annTrees params none fm.env = []) :
    Snd C A fm FR (exec (.FunctionDef name params body [] none [] scope none name pos) fm.env) (defS i ti pos.line (.rdf ⟨name,q,params,.stmts body,scope⟩ x c)) := by
  intro st r st' hf μ s R
  unfold defS at hf
  split at hf
  · rename_i ls hg
    split at hf
    · injection hf
    · rename_i hln
      injection hf
      obtain ⟨loc,g⟩ := st
      refine nestDef_K hd0 hk0 ha ?_
      rw [hq]
      refine zo (zju Mk K R hg hln hcl (o := .rdf ⟨name,q,params,.stmts body,scope⟩ x c) fun h' c' pm ctv doc hci => .rdf ⟨rfl,rfl,rfl,rfl,rfl,rfl,rfl,rfl,rfl⟩ rfl (R.pins _ hpin) hci) fun y μ₁ h₁ tk₁ S₁ R₁ ra => ?_
      exact zo (xd K hx hl R₁ ra) fun _ μ₂ h₂ tk₂ S₂ R₂ _ => Post.then rfl S₁ (Post.then rfl S₂ (Post.same R₂ .next))
  · injection hf
set_option tactic.hygienic true in
theorem snd_lam {ti : Nat} {P : Addr} (Mk : MkOk C fm ti P) (K : FmOk fm) {params : Arguments} {body : Expr} {scope : Scope} {pos : Pos} (hdef : defaultsOf params fm.env = ([],[])) (hcl : closureFor scope fm.env = pure []) :
    Snd C A fm VR (eval (.Lambda params body scope pos) fm.env) (lamE ti pos.line) := by
  intro st r st' hf μ s R
  unfold lamE at hf
  split at hf
  · rename_i ls hg
    split at hf
    · injection hf
    · rename_i hln
      injection hf
      obtain ⟨loc,g⟩ := st
      exact kla_eval hdef (zju Mk K R hg hln hcl (o := .lam) fun h' c' pm ctv doc hci => .lam)
  · injection hf
set_option tactic.hygienic true in
theorem zkj {o value : Expr} {pos' pos : Pos} {f ob : LM V} (K : FmOk fm) (hf : Snd C A fm VR (eval value fm.env) f) (ho : Snd C A fm VR (eval o fm.env) ob)
    (hs : swapsWith value (some (.Attribute o "read" pos')) pos.line fm.env = pure false := by rfl) : Snd C A fm FR (exec (.Assign [.Attribute o "read" pos'] value pos) fm.env) (zih f ob) := by
  intro st w st' hr μ s R
  obtain ⟨a,st₁,h1,hg⟩ := zk hr
  obtain ⟨b,st₂,h2,hg'⟩ := zk hg
  clear hr hg
  split at hg'
  · rename_i i
    split at hg'
    · rename_i hgi
      injection hg'
      refine plainObj_wpAny_Assign_Attribute (zo (hf _ _ _ h1 μ s R) fun x μ₁ h₁ tk₁ S₁ R₁ ra => zo (ho _ _ _ h2 μ₁ _ R₁) fun y μ₂ h₂ tk₂ S₂ R₂ rb => ?_) hs
      refine VR.inv rb fun sa hi => ?_
      have ra' := ra.step R₁ K S₂
      obtain ⟨obj,e1,e2⟩ := R₂.objs _ _ _ hi hgi
      revert e1; refine OR.inv e2 fun _ _ e1 => ?_
      refine wp_setFn e1 fun h' tk t es n hk hsa hd hes tk' => ?_
      simp only at hk hsa hd
      -- the dict first,then the function
      have hnone : h₂.get? h₂.objs.size = none := qz h₂
      obtain ⟨m,hn,hso⟩ := R₂.ns
      have hmem : sa ∈ μ₂ := List.mem_of_getElem? hi
      have hlen : μ₂.length = st₂.g.length := R₂.len
      let hx : Heap := h₂.push (dictOf es n)
      have kx : ∀ b o,h₂.get? b = some o→hx.get? b = some o := fun b o e => Heap.get?_push_of_some _ e
      have hkv : KV h₂ μ₂ [("read",a)] es := by
        subst hes
        exact KV.put (kvs := []) (es := []) ra' ⟨rfl,fun i _ _ e => by simp at e⟩
      obtain ⟨R3,S3⟩ := R₂.newObj (tk := tk₂) (h' := hx) kx hnone (Heap.get?_push_size _ rfl) (o := .dic [("read",a)]) (.dic (n := n) hkv)
      obtain ⟨m',hn',hso'⟩ := R3.ns
      have hi3 : (μ₂++[h₂.objs.size])[i]? = some sa := by rw [List.getElem?_append_left (List.getElem?_eq_some_iff.mp hi).1]; exact hi
      have hd3 : (μ₂++[h₂.objs.size])[st₂.g.length]? = some h₂.objs.size := by rw [← hlen,List.getElem?_append_right (Nat.le_refl _)]; simp
      have hkk : ∀ b o,b≠sa→hx.get? b = some o→h'.get? b = some o := fun b o hb e => by
        rcases Heap.get?_push_cases e with ⟨rfl,rfl⟩ | e
        · exact hd
        · exact hk b o hb e
      have hnl : h'.Ns fm.env.locals m' := hn'.at' fun o e => hkk _ o (Ne.symm (R₂.muNeL hmem)) e
      obtain ⟨R4,S4⟩ := R3.setObjN K (tk := tk') (h' := h') hso' hi3 hnl (fun b o q _ e => hkk b o q e) hsa (o := .stf st₂.g.length) (.stf hd3)
      exact Post.then rfl S₁ (Post.then rfl S₂ ⟨_,h',tk',rfl,S3.trans S4,R4,.next⟩)
    · injection hg'
  · injection hg'
set_option tactic.hygienic true in
theorem zg5 {x : Str} {px pos : Pos} {e : Expr} {f : LM V} {c : Nat} {ca : Addr} (K : FmOk fm) (hp : (c,ca) ∈ C.pin) (h : Snd C A fm VR (eval e fm.env) f) (hl : fm.env.kindOf x = some .cell) (hc : fm.env.cells.lookup x = some ca)
    (hs : swapsWith e (some (.Name x px)) pos.line fm.env = pure false := by rfl) : Snd C A fm FR (exec (.Assign [.Name x px] e pos) fm.env) (asgP c f) := by
  intro st r st' hf μ s R
  obtain ⟨v,st₁,h1,hf⟩ := zk hf
  refine wpAny_Assign_Name (zo (h _ _ _ h1 μ s R) fun y μ₁ h₁ tk₁ S₁ R₁ ra => ?_) hs
  have hca := R₁.pins _ hp
  have key : ∀ w,({ s with heap := h₁,toks := tk₁ } : Shared).heap.IsCell ca w→wpAny C.M A (storeName fm.env x y) (fun _ s'' => Post C fm FR μ s .next { st₁ with g := st₁.g.set c (.cell v) } .next s'') NoE { s with heap := h₁,toks := tk₁ } := by
    intro w hw
    refine wpAny_storeName_cell K.kind hl hc hw fun h' hc' hsb => ?_
    obtain ⟨o',ho',hd'⟩ := hc'
    obtain ⟨R2,S2⟩ := R₁.setObj K (tk := tk₁) hca hsb ho' (o := .cell v) (.cell hd' ra)
    exact Post.then rfl S₁ ⟨_,h',tk₁,rfl,S2,R2,.next⟩
  split at hf
  · rename_i hg
    injection hf
    obtain ⟨ob,e1,e2⟩ := R₁.objs _ _ _ hca hg
    cases e2 with | ecell q => exact key _ ⟨ob,e1,q⟩
  · rename_i w hg
    injection hf
    obtain ⟨ob,e1,e2⟩ := R₁.objs _ _ _ hca hg
    cases e2 with | cell q _ => exact key _ ⟨ob,e1,q⟩
  · injection hf
end
end Mine
end
section
namespace Mine
open PySem PyProof.Rows PySem.SeqAt PySem.W
structure ClsMake (K : PySem.W.Frag) (c fi : Addr) : Prop where
  makes : makesIn K c = true
  init : findIn K (.ref c) "__init__" = some (some (.ref fi))
  isfn : isFn K (.ref fi) = true
  keep : keepIn K (.ref c) = true
noncomputable def newE (c : Addr) (fl : LF) (fs : LM (List V)) : LM V := zw fs fun args st => match fl (.ref (st.g.length + 1) :: args) (st.g++[.dic [],.ins c st.g.length]) with
  | some (.none,g') => some (.ref (st.g.length + 1),{ st with g := g' })
  | _ => none
section
variable {C : Cx} {A : Around} {fm : Fm} {d : Nat}
theorem zke (c : Addr) (y : List Value) : (Code.builtin "type.__call__" ⟨.ref c :: y,[]⟩).weight = 1 := by kernel_rfl
theorem tc_units (c : Addr) (y : List Value) : (Code.builtin "type.__call__" ⟨.ref c :: y,[]⟩).cUnits = 1 := by kernel_rfl
theorem OkA.under (hA : OkA (d + 1) A) (c : Addr) (y : List Value) : OkA d (A.under (.builtin "type.__call__" ⟨.ref c :: y,[]⟩)) := by
  refine ⟨hA.handled,?_,?_⟩
  · show A.depth + (Code.builtin "type.__call__" ⟨.ref c :: y,[]⟩).weight + d < _
    rw [zke]; have := hA.depth; exact o421 this
  · show A.units + (Code.builtin "type.__call__" ⟨.ref c :: y,[]⟩).cUnits + 8 * d < _
    rw [tc_units]; have := hA.units; exact o464 this
set_option tactic.hygienic true in
theorem snd_new {x : Str} {p pos : Pos} {c fi : Addr} {e : Expr} {rest : List Expr} {fs : LM (List V)} {fl : LF} (K : FmOk fm) (hm : C.mg x = some (.ref c)) (hx : fm.env.kindOf x = some .globalImplicit) (Y : ClsMake C.K c fi)
    (hargs : Snd C A fm VRs (spliced (backTo pos (starEach (e :: rest) fm.env))) fs) (hA : OkA (d + 1) A) (hc : FnOk C d fi [] fl)
    (hd : (x == ("__debug__" : Str)) = false := by decide)
    (he : starEach (e :: rest) fm.env = (false,eval e fm.env) :: starEach rest fm.env := by rfl) (hplain : (backTo pos (starEach rest fm.env)).any (·.1) = false := by rfl) :
    Snd C A fm VR (eval (.Call (.Name x p) (e :: rest) [] pos) fm.env) (newE c fl fs) := by
  intro st v st' hf μ s R
  obtain ⟨args,st₁,h1,h2⟩ := zk hf
  clear hf
  split at h2
  · rename_i g' hfl
    injection h2
    obtain ⟨_,hc⟩ := hc
    refine Call_Name rfl (zdy K R hm ?_ hx hd)
    refine callWith_K R.kin Y.keep ?_ he hplain
    refine zo (hargs _ _ _ h1 μ s R) fun y μ₁ h₁ tk₁ S₁ R₁ ra => ⟨R₁.kin,wpAny_call ?_⟩
    have kE : ∀ b o,h₁.get? b = some o→(h₁.push emptyDict).get? b = some o := fun b o e => Heap.get?_push_of_some _ e
    obtain ⟨R2,S2⟩ := R₁.newObj (tk := tk₁) (h' := h₁.push emptyDict) kE (qz h₁) (Heap.get?_push_size _ rfl) (o := .dic []) (.dic (es := []) (n := 0) ⟨rfl,fun i _ _ e => by simp at e⟩)
    have hlen : μ₁.length = st₁.g.length := R₁.len
    have hdx : (μ₁++[h₁.objs.size])[st₁.g.length]? = some h₁.objs.size := by rw [← hlen,List.getElem?_append_right (Nat.le_refl _)]; simp
    have hsz : (h₁.push emptyDict).objs.size = h₁.objs.size + 1 := Heap.size_push ..
    obtain ⟨R3,S3⟩ := R2.newObj (tk := tk₁) (h' := (h₁.push emptyDict).push (instObj c h₁.objs.size)) (a := h₁.objs.size + 1) (fun b o e => Heap.get?_push_of_some _ e) (by rw [← hsz]; exact qz _) (by rw [← hsz]; exact Heap.get?_push_size _ rfl) (o := .ins c st₁.g.length) (.ins hdx)
    have hxx : ((μ₁++[h₁.objs.size])++[h₁.objs.size + 1])[st₁.g.length + 1]? = some (h₁.objs.size + 1) := by
      rw [← hlen,List.getElem?_append_right (by simp)]; simp
    have S23 := S2.trans S3
    have rself : VR ((h₁.push emptyDict).push (instObj c h₁.objs.size)) ((μ₁++[h₁.objs.size])++[h₁.objs.size + 1]) (.ref (st₁.g.length + 1)) (.ref (h₁.objs.size + 1)) := .ref hxx
    refine make_core (A := A) (rest := y) (kw := []) (makes_of R₁.kin Y.makes) (looks_findIn R₁.kin Y.init) (fun self => bind_fn R₁.kin self (beq_iff_eq.mp Y.isfn)) (.inl rfl) ?_
    have hfl' : fl (.ref (st₁.g.length + 1) :: args) ((st₁.g++[LObj.dic []])++[LObj.ins c st₁.g.length]) = some (.none,g') := by rw [List.append_assoc]; exact hfl
    refine codeAny_mono (hc (A.under (.builtin "type.__call__" ⟨.ref c :: y,[]⟩)) fm (hA.under c y) K (.ref (st₁.g.length + 1) :: args) _ .none g' hfl' _ st₁.loc _ (.ref (h₁.objs.size + 1) :: y) [] R3 (VRs.nilKw (.cons rself (ra.step R₁ K S23))) rfl) fun r s' hp => ?_
    rcases r with e | (v | _ | _ | _)
    · exact hp.elim
    all_goals try exact hp.elim
    obtain ⟨μ₄,h₄,tk₄,rfl,S4,R4,r4⟩ := hp
    cases r4
    refine ⟨rfl,?_⟩
    exact Post.then rfl S₁ ⟨μ₄,h₄,tk₄,rfl,S23.trans S4,R4,.ref (S4.mu _ _ hxx)⟩
  · injection h2
end
end Mine
end
section
namespace Mine
open PySem PyProof.Rows
noncomputable def runP (k n : Nat) (we : Nat→LM Fl) : LF := fun args g => if args.length = n then
    match we g.length ⟨args.map some++List.replicate (k - n) none,g++[.ecell]⟩ with
    | some (.ret v,st) => some (v,st.g)
    | some (.next,st) => some (.none,st.g)
    | _ => none
  else none
set_option tactic.hygienic true in
theorem zkn {k n : Nat} {body : Nat→LM Fl} {args : List V} {g : List LObj} {v : V} {g' : List LObj} (h : runP k n body args g = some (v,g')) :
    args.length = n∧∃ fl loc',body g.length ⟨args.map some++List.replicate (k - n) none,g++[.ecell]⟩ = some (fl,⟨loc',g'⟩)∧(fl = .ret v∨(fl = .next∧v = .none)) := by
  unfold runP at h
  split at h
  · rename_i hn
    refine ⟨hn,?_⟩
    split at h
    · rename_i st e; injection h; exact ⟨_,st.loc,e,.inl rfl⟩
    · rename_i st e; injection h; exact ⟨_,st.loc,e,.inr ⟨rfl,rfl⟩⟩
    · injection h
  · injection h
theorem zch {kindOf : Str→Option NameKind} : ∀ {binds : List (Str × Value)} {m : Str→Option Value},(∀ p ∈ binds,kindOf p.1 = some .local)→bindC kindOf binds m = m
  | [],_,_ => rfl
  | (n,v) :: r,m,h => by
    unfold bindC
    rw [if_pos (h (n,v) (List.mem_cons_self ..))]
    exact zch fun p hp => h p (List.mem_cons_of_mem _ hp)
section
variable {C : Cx} {d : Nat}
theorem zjf {f : Addr} {fd : FuncData} {body : List Stmt} {names : List Str} {n : Nat} {x : Str} {we : Nat→LM Fl} (F : FnAt C f fd) (hbody : fd.body = .stmts body) (hclo : fd.closure = [])
    (hnd : names.Nodup) (hloc : ∀ y ∈ names,fd.scope.names.lookup y = some .local) (hb : ∀ vals : List Value,vals.length = n→bindArgs fd ⟨vals,[]⟩ = pure (names.zip vals)) (hle : n≤names.length)
    (hcs : ∀ L,(callEnvC fd L f).cells.lookup x = some (L + 1))
    (h : ∀ A L c,OkA d A→FmOk ⟨callEnvC fd L f,qt names,[]⟩→Snd (C.repin ((c,L + 1) :: C.pin)) A ⟨callEnvC fd L f,qt names,[]⟩ FR (execs body (callEnvC fd L f)) (we c)) :
    FnOk C (d + 1) f [] (runP names.length n we) := by
  refine ⟨⟨fd,F⟩,fun A fm hA K args g v g' hf μ loc s vals kvals R hv hkw => ?_⟩
  obtain ⟨hn,fl,loc',hbd,hres⟩ := zkn hf
  have : kvals = [] := List.length_eq_zero_iff.mp hkw
  subst this
  simp only [List.append_nil] at hv
  obtain ⟨o,ho,hdat⟩ := F.at'
  have hbl : ∀ y ∈ names.zip vals,fd.scope.names.lookup y.1 = some .local := fun y hy => hloc _ (List.of_mem_zip hy).1
  refine (codeAny_call_cells (fd := fd) (body := body) (binds := names.zip vals) (by have := hA.depth; exact o420 this) (R.base _ _ ho) hdat (C.nolimit.keeps R.base) ?_ hbody (hb vals (by rw [← hv.1]; exact hn)) hclo
    (fun y hy => .inl (hbl y hy)) (fun s₁ ic => ?_) F.co F.gen F.kind)
  · obtain ⟨a,b,c,t,e1,e2,r⟩ := F.code; exact ⟨a,b,c,t,e1,R.base _ _ e2,r⟩
  generalize hL : s.heap.objs.size = L at *
  have hLn : s.heap.get? L = none := hL ▸ qz _
  have hup : ∀ c,L < c→s.heap.get? c = none := fun c hc => Heap.get?_none_of_le (o439 hL hc)
  have K' : FmOk ⟨callEnvC fd L f,qt names,[]⟩ := fmOk0 F.kind F.globals F.builtins hnd
  obtain ⟨h₀,tk₀,rfl,hk⟩ := ic.done
  have hi : ∀ b o,s.heap.get? b = some o→Imm o→h₀.get? b = some o := fun b o e _ => hk b o e
  have hcell : h₀.IsCell (L + 1) none := by
    have e := ic.cell x (L + 1) (hcs L)
    rw [zch (m := fun _ => none) (fun p hp => hbl p hp)] at e
    exact e
  have R0 := R.enter (env := callEnvC fd L f) (names := names) (tk := tk₀) (r := names.length - n) hk hLn ic.toInCall.ns hv (zcg hnd hloc) (by rw [hn]; omega)
  have S0 : Step ⟨callEnvC fd L f,qt names,[]⟩ μ μ s.heap h₀ := .ext' hk
  -- the cell goes onto the store
  obtain ⟨obc,hobc,hdc⟩ := hcell
  have hLc : s.heap.get? (L + 1) = none := hup _ (Nat.lt_succ_self _)
  have hnot : L + 1 ∉ μ := fun hm => by obtain ⟨_,_,e,_⟩ := R.muLive hm; exact off hLc e
  have hμ : ∀ (i : Nat) a,μ[i]? = some a→(μ++[L + 1])[i]? = some a := fun i a e => by rw [List.getElem?_append_left (List.getElem?_eq_some_iff.mp e).1]; exact e
  have R1 : Rel C ⟨callEnvC fd L f,qt names,[]⟩ (μ++[L + 1]) ⟨args.map some++List.replicate (names.length - n) none,g++[.ecell]⟩ { s with heap := h₀,toks := tk₀ } := by
    refine ⟨R0.base,?_,R0.slen,R0.loc0,R0.cell0,by have := R0.len; simp at this ⊢; exact o467 this,fun i a o ha ho => ?_,?_,?_,?_,fun p hp => hμ _ _ (R0.pins p hp)⟩
    · obtain ⟨m,hn,ho⟩ := R0.ns
      exact ⟨m,hn,fun i y w hx hw => (ho i y w hx hw).mono (fun _ _ e _ => e) hμ fun c _ w q => q⟩
    · simp only at ho
      have hlen : μ.length = g.length := R.len
      by_cases hlt : i < μ.length
      · rw [List.getElem?_append_left hlt] at ha
        rw [List.getElem?_append_left (hlen ▸ hlt)] at ho
        obtain ⟨ob,e1,e2⟩ := R0.objs i a o ha ho
        exact ⟨ob,e1,e2.mono (fun _ _ e _ => e) hμ⟩
      · have : i = μ.length := by
          have := (List.getElem?_eq_some_iff.mp ha).1
          simp at this; exact o468 hlen hlt this
        subst this
        rw [List.getElem?_append_right (Nat.le_refl _)] at ha
        rw [hlen,List.getElem?_append_right (Nat.le_refl _)] at ho
        simp at ha ho
        subst ha ho
        exact ⟨obc,hobc,.ecell hdc⟩
    · rw [List.nodup_append]
      refine ⟨R0.nd,by simp,?_⟩
      intro y hy z hz e
      simp at hz; subst hz e; exact hnot hy
    · intro y hy
      rcases List.mem_append.mp hy with hy | hy
      · exact R0.mu0 y hy
      · simp at hy; subst hy; exact R.fresh hLc
    · intro y hy
      rcases List.mem_append.mp hy with hy | hy
      · exact R0.apart y hy
      · simp at hy; subst hy
        refine ⟨fun q => ?_,fun z c hc => ?_⟩
        · have q' : L + 1 = L := q
          exact o469 q'
        · simp [qt] at hc
  have S1 : Step ⟨callEnvC fd L f,qt names,[]⟩ μ (μ++[L + 1]) s.heap h₀ := ⟨fun b o e _ _ => hk b o e,fun b o e => ⟨o,hk b o e⟩,[L + 1],rfl,by simp [hLc]⟩
  have hlen : μ.length = g.length := R.len
  have R1' := R1.repin (ps := (g.length,L + 1) :: C.pin) (fun p hp => by
    rcases List.mem_cons.mp hp with rfl | hp
    · rw [← hlen,List.getElem?_append_right (Nat.le_refl _)]; simp
    · exact R1.pins p hp)
  refine wpAny_mono (h _ L g.length hA.deep K' _ _ _ hbd _ _ R1') (fun fl' s' hp => ?_) fun _ _ e => e.elim
  obtain ⟨μ',h',tk,rfl,S',R',rf⟩ := hp
  have R'' : Rel C _ μ' _ _ := R'.unpin fun p hp => S'.mu _ _ (R1.pins p hp)
  obtain ⟨Rb,Sb⟩ := Rel.back K R (by exact wr1 hLn) (S1.trans S') R''
  refine ⟨μ',h',tk,rfl,Sb,Rb,?_⟩
  exact FR.out rf hres (fun _ r => r) fun r => r
end
end Mine
end
section
namespace Mine
open PySem PyProof.Rows
noncomputable def zj1 (a : Addr) (ns : List Int) (f h : LM V) : LM V := zw f fun v => zw h fun k => fun st => match v,k with
  | .ext b,.int k => if b = a∧0≤k then some (.ref st.g.length,{ st with g := st.g++[.lst ((ns.map V.int).take k.toNat)] }) else none
  | _,_ => none
theorem ints_vrs {h : Heap} {μ : List Addr} {vs : List Value} {ns : List Int} (hi : IntsAre vs ns) : VRs h μ (ns.map V.int) vs := by
  induction hi with
  | nil => exact .nil
  | cons n t _ ih => exact .cons (.int n t) ih
section
variable {C : Cx} {A : Around} {fm : Fm} {d : Nat}
set_option tactic.hygienic true in
theorem zkh {v u : Expr} {p pos : Pos} {a : Addr} {vs : List Value} {ns : List Int} {f h : LM V} (K : FmOk fm) (hl : C.H0.IsList a vs.toArray) (hi : IntsAre vs ns) (hz : ns.length≤63) (hv : Snd C A fm VR (eval v fm.env) f) (hu : Snd C A fm VR (eval u fm.env) h)
    (ht : ∀ o r,letTemporaryGo v o r = pure () := by intro _ _; rfl) : Snd C A fm VR (eval (.Subscript v (.Slice none (some u) none p) pos) fm.env) (zj1 a ns f h) := by
  intro st w st' hf μ s R
  obtain ⟨x,st₁,h1,hf⟩ := zk hf
  obtain ⟨k,st₂,h2,ho⟩ := zk hf
  clear hf
  split at ho
  · rename_i b k
    split at ho
    · rename_i hc
      obtain ⟨rfl,hk0⟩ := hc
      injection ho
      refine wpAny_Subscript_list_slice (zo (hv _ _ _ h1 μ s R) fun x μ₁ h₁ tk₁ S₁ R₁ ra => wpAny_pure (zo (hu _ _ _ h2 μ₁ _ R₁) fun y μ₂ h₂ tk₂ S₂ R₂ rb => ?_)) ht
      injection ra
      injection rb
      have hlen : vs.length = ns.length := hi.length
      obtain ⟨o,e1,e2,n,e3⟩ := hl
      refine ⟨_,vs.toArray,none,some k,rfl,⟨_,R₂.base _ _ e1,e2,n,e3⟩,by rw [sizeLine_eq,List.size_toArray]; exact o470 hz hlen,.none,.int _ _,?_⟩
      obtain ⟨kn,rfl⟩ := Int.eq_ofNat_of_zero_le hk0
      rw [slicePick_upto']
      refine Post.then rfl S₁ (Post.then rfl S₂ (Rel.newList2 (tk := tk₂) R₂ ?_))
      simpa using (ints_vrs hi).take kn
    · injection ho
  · injection ho
end
end Mine
end
section
set_option maxHeartbeats 4000000
namespace Mine
open PySem PyProof.Rows PySem.W
theorem OkA.lt {d d' : Nat} {A : Around} (h : OkA d A) (hd : d'≤d) : OkA d' A := h.le hd
theorem FnOk.le {C : Cx} {d d' : Nat} {f : Addr} {kwn : List Str} {fl : LF} (h : FnOk C d f kwn fl) (hd : d≤d') : FnOk C d' f kwn fl := ⟨h.1,fun A fm hA K => h.2 A fm (hA.le hd) K⟩
theorem GOk.repin {C : Cx} (G : GOk C) (ps : List (Nat × Addr)) : GOk (C.repin ps) := ⟨G.b,G.b64,G.bty⟩
theorem FnAt.repin {C : Cx} {f : Addr} {fd : FuncData} (F : FnAt C f fd) (ps : List (Nat × Addr)) : FnAt (C.repin ps) f fd := ⟨F.at',F.code,F.globals,F.builtins,F.kind,F.co,F.gen⟩
theorem MAt.repin {C : Cx} {n : Str} {f : Addr} (F : MAt C n f) (ps : List (Nat × Addr)) : MAt (C.repin ps) n f := let ⟨a,b,c,e,g,F⟩ := F; ⟨a,b,c,e,g,F.repin ps⟩
theorem Lex.repin {C : Cx} {c fi fr fg fp : Addr} (X : Lex C c fi fr fg fp) (ps : List (Nat × Addr)) : Lex (C.repin ps) c fi fr fg fp :=
  ⟨X.get_lineno,X.get_instream,X.get_whitespace,X.get_pushback,X.set_lineno,X.set_instream,X.set_whitespace,X.set_pushback,X.b_read_char,X.m_read_char,X.m_get_token,X.m_push_token,X.f_init.repin ps,X.f_read_char.repin ps,X.f_get_token.repin ps,X.f_push_token.repin ps⟩
noncomputable def uw (n : Nat) (c fr : Addr) (sc : Nat) : LM Fl := (seqS (asgP sc (zr zk1 (zl (ldE 0) nilL))) (seqS (defS 2 0 253 (.rdf rdD "signs" sc)) (seqS (asgS 3 (lamE 0 255)) (seqS (zih (ldE 2) (ldE 3)) (seqS (asgS 4 (newE c (zf4 n c) (zl (ldE 3) nilL))) (seqS (asgS 5 (lstE nilL)) (seqS (asgS 6 (lstE nilL)) (seqS (asgS 7 (lstE nilL)) (seqS (asgS 8 (zd (.int 0))) (seqS (asgS 9 (zd (.int 1))) (seqS (asgS 10 (tupE nilL)) (seqS (asgS 11 (zd (.str [63]))) (seqS (jq n (orT (cmpT neV (ldE 11) (zd (.str []))) (orT (cmpT neV (ldE 5) (lstE nilL)) (cmpT neV (ldE 10) (tupE nilL)))) (seqS (asgS 11 (vo c "get_token" (qc n c fr) (ldE 4) nilL)) (seqS (jq n (andT (cmpT neV (ldE 11) (zd (.str []))) (cmpT leV (wx c "lineno" (ldE 4)) (ldE 9))) (seqS (ja (q5 qf zt (ldE 7) (zl (ldE 11) nilL))) (seqS (asgS 12 (zr (j0 n) (zl (zr (q7 n) (zl (ldE 11) nilL)) (zl (ldE 1) nilL)))) (seqS (ja (zr (ki n) (zl (ldE 5) (zl (tupE (zl (binE subV (zu (ldE 12) (zd (.int 1))) (zd (.int 240))) (zl (ldE 8) (zl (zu (ldE 12) (zd (.int 2))) nilL)))) nilL)))) (seqS (asgS 8 (binE addV (ldE 8) (zd (.int 1)))) (seqS (asgS 11 (vo c "get_token" (qc n c fr) (ldE 4) nilL)) zm)))))) (seqS (iteL (cmpT neV (ldE 11) (zd (.str []))) (seqS (ja (vo c "push_token" (jh n c) (ldE 4) (zl (ldE 11) nilL))) zm) zm) (seqS (iteL (cmpT neV (ldE 10) (tupE nilL)) (seqS (asgS 10 (zr (jc n) (zl (ldE 5) (zl (ldE 10) nilL)))) zm) (seqS (iteL (cmpT neV (ldE 5) (lstE nilL)) (seqS (asgS 10 (zr (ky n) (zl (ldE 5) nilL))) zm) zm) zm)) (seqS (ja (q5 qf zt (ldE 6) (zl (iteL (cmpT neV (ldE 10) (tupE nilL)) (zu (ldE 10) (zd (.int 1))) (unE negV (zd (.int 1)))) nilL))) (seqS (iteL (cmpT neV (ldE 10) (tupE nilL)) (seqS (asgS 10 (iteL (cmpT gtV (zu (ldE 10) (zd (.int 2))) (zd (.int 1))) (tupE (zl (zu (ldE 10) (zd (.int 0))) (zl (zu (ldE 10) (zd (.int 1))) (zl (binE subV (zu (ldE 10) (zd (.int 2))) (zd (.int 1))) nilL)))) (tupE nilL))) zm) zm) (seqS (asgS 9 (binE addV (ldE 9) (zd (.int 1)))) zm)))))))) (seqS (retS (tupE (zl (ldE 6) (zl (ldE 7) nilL)))) zm))))))))))))))
noncomputable abbrev kh (n : Nat) (c fr : Addr) : LF := runP 13 2 (uw n c fr)
theorem zho {C : Cx} {d : Nat} {f P cc : Addr} (n : Nat) (G : GOk C) {c fi fr fg fp : Addr} (X : Lex C c fi fr fg fp) (Y : ClsMake C.K c fi) (hcl : C.mg "_netrclex" = some (.ref c)) (hP : (0,P) ∈ C.pin) (bm : BmAt C) (hcode : CodeHd C.H0 cc P)
    {f_b64decode : Addr} (hh_b64decode : ∀ ps,(C.repin ps).mg "b64decode" = some (.ref f_b64decode)∧FnOk (C.repin ps) (d + 1) f_b64decode [] (j0 n))
    {f_law_octets : Addr} (hh_law_octets : ∀ ps,(C.repin ps).mg "_law_octets" = some (.ref f_law_octets)∧FnOk (C.repin ps) (d + 1) f_law_octets [] (q7 n))
    {f_heappush : Addr} (hh_heappush : ∀ ps,(C.repin ps).mg "heappush" = some (.ref f_heappush)∧FnOk (C.repin ps) (d + 1) f_heappush [] (ki n))
    {f_heappop : Addr} (hh_heappop : ∀ ps,(C.repin ps).mg "heappop" = some (.ref f_heappop)∧FnOk (C.repin ps) (d + 1) f_heappop [] (ky n))
    {f_heappushpop : Addr} (hh_heappushpop : ∀ ps,(C.repin ps).mg "heappushpop" = some (.ref f_heappushpop)∧FnOk (C.repin ps) (d + 1) f_heappushpop [] (jc n))
    (hh_init : ∀ ps,FnOk (C.repin ps) d fi [] (zf4 n c))
    (hh_get_token : ∀ ps,FnOk (C.repin ps) (d + 1) fg [] (qc n c fr))
    (hh_push_token : ∀ ps,FnOk (C.repin ps) (d + 1) fp [] (jh n c))
    {doc pm ct : Value} {an : Option Addr} (F : FnAt C f (fdOf "_law_plan" .none .none doc pm an (.ref cc) ct)) : FnOk C (d + 1 + 1) f [] (kh n c fr) := by
  refine zjf (names := ["text", "pair", "read", "stream", "lexer", "heap", "plan", "heard", "came", "hour", "in_hand", "word", "octets"]) (n := 2) (x := "signs") F rfl rfl (by decide) (show ∀ x ∈ (["text", "pair", "read", "stream", "lexer", "heap", "plan", "heard", "came", "hour", "in_hand", "word", "octets"] : List Str),(dpOf "_law_plan").scope.names.lookup x = some .local by decide +kernel) (fun vals h => ?_) (by decide) (fun L => rfl) fun A L sc hA K => ?_
  · obtain ⟨a0,a1,rfl⟩ := len2 h
    rfl
  have hu : A.units < cLine := by have := hA.units; exact o4 this
  have hpin : (sc,L + 1) ∈ (C.repin ((sc,L + 1) :: C.pin)).pin := List.mem_cons_self ..
  have Mk : MkOk (C.repin ((sc,L + 1) :: C.pin)) ⟨callEnvC (fdOf "_law_plan" .none .none doc pm an (.ref cc) ct) L f,qt ["text", "pair", "read", "stream", "lexer", "heap", "plan", "heard", "came", "hour", "in_hand", "word", "octets"],[]⟩ 0 P := ⟨List.mem_cons_of_mem _ hP,⟨cc,rfl,hcode⟩,bm⟩
  have h_b64decode := hh_b64decode ((sc,L + 1) :: C.pin)
  have h_law_octets := hh_law_octets ((sc,L + 1) :: C.pin)
  have h_heappush := hh_heappush ((sc,L + 1) :: C.pin)
  have h_heappop := hh_heappop ((sc,L + 1) :: C.pin)
  have h_heappushpop := hh_heappushpop ((sc,L + 1) :: C.pin)
  have h_init := hh_init ((sc,L + 1) :: C.pin)
  have h_get_token := hh_get_token ((sc,L + 1) :: C.pin)
  have h_push_token := hh_push_token ((sc,L + 1) :: C.pin)
  replace G := G.repin ((sc,L + 1) :: C.pin)
  replace X := X.repin ((sc,L + 1) :: C.pin)
  replace hcl : (C.repin ((sc,L + 1) :: C.pin)).mg "_netrclex" = some (.ref c) := hcl
  replace Y : ClsMake (C.repin ((sc,L + 1) :: C.pin)).K c fi := Y
  exact (zb (zg5 K hpin (q8 K (G.b _ (by decide)) rfl (by decide) rfl (zc K (za K rfl rfl) ze) (list_ok hA.handled)) rfl rfl) (zb (snd_def Mk K rfl rfl hpin rfl rfl rfl rfl rfl) (zb (zh K (snd_lam Mk K rfl rfl) rfl rfl) (zb (zkj K (za K rfl rfl) (za K rfl rfl)) (zb (zh K (snd_new K hcl rfl Y (zc K (za K rfl rfl) ze) hA h_init) rfl rfl) (zb (zh K (q0 ze) rfl rfl) (zb (zh K (q0 ze) rfl rfl) (zb (zh K (q0 ze) rfl rfl) (zb (zh K zg rfl rfl) (zb (zh K zg rfl rfl) (zb (zh K (jb ze) rfl rfl) (zb (zh K (qq rfl) rfl rfl) (zb (xf (zz (zf K (za K rfl rfl) (qq rfl) (xn hu)) (zz (zf K (za K rfl rfl) (q0 ze) (xn hu)) (km (zf K (za K rfl rfl) (jb ze) (xn hu))))) (zb (zh K (v5 K X.m_get_token (za K rfl rfl) hA h_get_token) rfl rfl) (zb (xf (qo (zf K (za K rfl rfl) (qq rfl) (xn hu)) (qi (zf K (wg X.get_lineno (za K rfl rfl)) (za K rfl rfl) (uv hu)))) (zb (ql (qg K qe q9 PySem.F.slot_list_append zx (za K rfl rfl) (zc K (za K rfl rfl) ze) (qu K)) rfl) (zb (zh K (qd K h_b64decode.1 rfl (zc K (qd K h_law_octets.1 rfl (zc K (za K rfl rfl) ze) hA h_law_octets.2) (zc K (za K rfl rfl) ze)) hA h_b64decode.2) rfl rfl) (zb (ql (qd K h_heappush.1 rfl (zc K (za K rfl rfl) (zc K (jb (zc K (zn K (zv K (za K rfl rfl) zg) zg ks) (zc K (za K rfl rfl) (zc K (zv K (za K rfl rfl) zg) ze)))) ze)) hA h_heappush.2) rfl) (zb (zh K (zn K (za K rfl rfl) zg qx) rfl rfl) (zb (zh K (v5 K X.m_get_token (za K rfl rfl) hA h_get_token) rfl rfl) zi))))) n) (zb (z7 (zf K (za K rfl rfl) (qq rfl) (xn hu)) (zb (ql (zi3 K X.m_push_token (za K rfl rfl) (zc K (za K rfl rfl) ze) hA h_push_token) rfl) zi) zi) (zb (z7 (zf K (za K rfl rfl) (jb ze) (xn hu)) (zb (zh K (qd K h_heappushpop.1 rfl (zc K (za K rfl rfl) (zc K (za K rfl rfl) ze)) hA h_heappushpop.2) rfl rfl) zi) (zb (z7 (zf K (za K rfl rfl) (q0 ze) (xn hu)) (zb (zh K (qd K h_heappop.1 rfl (zc K (za K rfl rfl) ze) hA h_heappop.2) rfl rfl) zi) zi) zi)) (zb (ql (qg K qe q9 PySem.F.slot_list_append zx (za K rfl rfl) (zc K (vj (zf K (za K rfl rfl) (jb ze) (xn hu)) (zv K (za K rfl rfl) zg) (zic zg zim)) ze) (qu K)) rfl) (zb (z7 (zf K (za K rfl rfl) (jb ze) (xn hu)) (zb (zh K (vj (zf K (zv K (za K rfl rfl) zg) zg gt_ok) (jb (zc K (zv K (za K rfl rfl) zg) (zc K (zv K (za K rfl rfl) zg) (zc K (zn K (zv K (za K rfl rfl) zg) zg ks) ze)))) (jb ze)) rfl rfl) zi) zi) (zb (zh K (zn K (za K rfl rfl) zg qx) rfl rfl) zi))))))) n) (zb (zp (jb (zc K (za K rfl rfl) (zc K (za K rfl rfl) ze)))) zi))))))))))))))
end Mine
end
section
set_option maxHeartbeats 4000000
namespace Mine
open PySem PyProof.Rows PySem.W
theorem zd3 : typeOf (.builtin "list.count") = pure (.type "method_descriptor") := by show builtinType _ = _; rw [builtinType_eq_fast]; kernel_rfl
theorem zd2 : typeOf (.builtin "list.index") = pure (.type "method_descriptor") := by show builtinType _ = _; rw [builtinType_eq_fast]; kernel_rfl
theorem zkx {C : Cx} {A : Around} {env : Env} {k : Nat} {p' pos : Pos} : ∀ s : Shared,∃ t tk,∀ (Q : Value→Shared→Prop),Q (.int (-1) t) { s with toks := tk }→wpAny C.M A (eval (.UnaryOp .USub (.Constant (.int 1) k p') pos) env) Q NoE s := by
  intro s
  refine ⟨s.toks + 1,s.toks + 1 + 1,fun Q h => ?_⟩
  show wpAny _ _ (eval (.Constant (.int 1) k p') env >>= fun v => standAt pos >>= fun _ => holding [v] (unaryOp .USub v)) _ _ _
  exact wpAny_bind (wpAny_mkInt (wpAny_bind (wpAny_standAt (wpAny_holding (P.neg_int h)))))
noncomputable def zk4 (n : Nat) (planF : LF) (sa : Addr) (ns : List Int) : LM Fl := (seqS (asgS 1 (binG catV (zj1 sa ns (ldE 0) (zd (.int 5))) (lstE (zl (zd (.int 36)) (zl (zd (.int 25)) (zl (zd (.int 18)) nilL)))))) (seqS (asgS 2 (zu (lstE (zl (zd (.bytes [43,47])) (zl (zd (.bytes [34,32])) (zl (zd (.bytes [92,34])) (zl (zd (.bytes [32,92])) (zl (zd (.bytes [45,95])) nilL)))))) (binE modV (zr sumF (zl (ldE 1) nilL)) (zd (.int 5))))) (seqS (asgS 3 (lstE nilL)) (seqS (asgS 4 (lstE nilL)) (seqS (asgS 5 (zd (.int 1))) (seqS (asgS 6 (zd (.str []))) (seqS (forS n (zr j7 (zl (zr lenF (zl (ldE 1) nilL)) nilL)) (stS 7) (seqS (asgS 12 (zu (ldE 1) (ldE 7))) (seqS (ja (q5 qf zt (ldE 3) (zl (tupE (zl (ldE 5) (zl (binE modV (ldE 12) (zd (.int 16))) (zl (binE addV (zd (.int 1)) (binE modV (binE divV (ldE 12) (zd (.int 16))) (zd (.int 3)))) nilL)))) nilL))) (seqS (asgS 13 (zr kz (zl (lstE (zl (binE addV (zd (.int 251)) (binE mulV (binE modV (binE divV (ldE 12) (zd (.int 5))) (zd (.int 2))) (zd (.int 4)))) (zl (binE addV (zd (.int 240)) (binE modV (ldE 12) (zd (.int 16)))) (zl (binE addV (zd (.int 1)) (binE modV (binE divV (ldE 12) (zd (.int 16))) (zd (.int 3)))) nilL)))) nilL))) (seqS (asgS 5 (binE addV (ldE 5) (binE modV (binE addV (binE divV (ldE 12) (zd (.int 2))) (ldE 7)) (zd (.int 3))))) (seqS (ja (q5 qf zt (ldE 4) (zl (zr (ka n) (zl (ldE 13) (zl (ldE 2) nilL))) nilL))) (seqS (iteL (cmpT neV (zr (kl n) (zl (ldE 13) (zl (ldE 2) nilL))) (zr (q7 n) (zl (zu (ldE 4) (unE negV (zd (.int 1)))) nilL))) (seqS (retS (zd (.bool false))) zm) zm) (seqS (asgS 6 (binE addV (binE addV (ldE 6) (zr (jj n) (zl (zu (ldE 4) (unE negV (zd (.int 1)))) (zl (binE divV (ldE 12) (zd (.int 7))) nilL)))) (binE mulV (zd (.str [10])) (binE modV (binE addV (binE divV (ldE 12) (zd (.int 2))) (ldE 7)) (zd (.int 3)))))) zm)))))))) (seqS (asgS 8 (zr j7 (zl (zr lenF (zl (ldE 3) nilL)) nilL))) (seqS (zfk [(stS 14),(stS 15)] (zr planF (zl (ldE 6) (zl (ldE 2) nilL)))) (seqS (iteL (orT (cmpT neV (ldE 15) (ldE 4)) (cmpT neV (kb n (ldE 8) 1 [14] (stS 0) yesT (q5 qf zcc (ldE 1) (zl (ldE 0) nilL))) (kb n (ldE 8) 1 [3] (stS 0) yesT (zu (zu (ldE 1) (ldE 0)) (zd (.int 2)))))) (seqS (retS (zd (.bool false))) zm) zm) (seqS (iteL (cmpT neV (zr maxF (zl (kb n (ldE 8) 1 [14,3] (stS 0) yesT (binE subV (binE subV (zr lenF (zl (ldE 1) nilL)) (q5 qf zb5 (unG revV (ldE 1)) (zl (ldE 0) nilL))) (zu (zu (ldE 2) (ldE 0)) (zd (.int 1))))) nilL)) (zr (q6 n) (zl (ldE 3) nilL))) (seqS (retS (zd (.bool false))) zm) zm) (seqS (asgS 9 (kb n (ldE 8) 1 [3] (stS 0) yesT (zr (js n) (zl (ldE 1) (zl (ldE 0) nilL))))) (seqS (asgS 10 (lstE nilL)) (seqS (forS n (zr j7 (zl (zd (.int 1)) (zl (binE addV (zr maxF (zl (ldE 9) nilL)) (zd (.int 1))) nilL))) (stS 11) (seqS (asgS 16 (kb n (ldE 8) 1 [11,9,3] (stS 0) (andT (cmpT leV (zu (zu (ldE 3) (ldE 0)) (zd (.int 0))) (ldE 1)) (cmpT leV (ldE 1) (zu (ldE 2) (ldE 0)))) (tupE (zl (zu (zu (ldE 3) (ldE 0)) (zd (.int 1))) (zl (ldE 0) nilL))))) (seqS (ja (q5 qf zt (ldE 10) (zl (iteL (cmpT neV (ldE 16) (lstE nilL)) (zu (zr minF (zl (ldE 16) nilL)) (zd (.int 1))) (unE negV (zd (.int 1)))) nilL))) zm))) (seqS (retS (boolE (cmpT eqV (ldE 14) (ldE 10)))) zm)))))))))))))))
noncomputable abbrev wo (L : Addr) : List (Str × Option Addr) := [("script",none),("numbers",none),("altchars",none),("works",some (L + 1)),("written",none),("row",none),("text",none),("k",none),("places",none),("last",some (L + 3)),("told",none),("hour",some (L + 4)),("x",none),("card",none),("plan",some (L + 2)),("heard",none),("there",none)]
theorem law_snd {C : Cx} {A : Around} {d : Nat} {L fa : Addr} {cd : Value} (n : Nat) (G : GOk C) (planF : LF) {sa : Addr} {vs : List Value} {ns : List Int} (hl : C.H0.IsList sa vs.toArray) (hi : IntsAre vs ns) (hz : ns.length≤63)
    {f_law_written : Addr} (h_law_written : C.mg "_law_written" = some (.ref f_law_written)∧FnOk C (d + 1) f_law_written [] (ka n))
    {f_b64encode : Addr} (h_b64encode : C.mg "b64encode" = some (.ref f_b64encode)∧FnOk C (d + 1) f_b64encode [] (kl n))
    {f_law_octets : Addr} (h_law_octets : C.mg "_law_octets" = some (.ref f_law_octets)∧FnOk C (d + 1) f_law_octets [] (q7 n))
    {f_law_spelled : Addr} (h_law_spelled : C.mg "_law_spelled" = some (.ref f_law_spelled)∧FnOk C (d + 1) f_law_spelled [] (jj n))
    {f_law_plan : Addr} (h_law_plan : C.mg "_law_plan" = some (.ref f_law_plan)∧FnOk C (d + 1) f_law_plan [] planF)
    {f_law_least_lateness : Addr} (h_law_least_lateness : C.mg "_law_least_lateness" = some (.ref f_law_least_lateness)∧FnOk C (d + 1) f_law_least_lateness [] (q6 n))
    {f_law_last_hour : Addr} (h_law_last_hour : C.mg "_law_last_hour" = some (.ref f_law_last_hour)∧FnOk C (d + 1) f_law_last_hour [] (js n))
    (hA : OkA (d + 1) A) (K : FmOk ⟨envOfC "law" (dpOf "law").scope L fa cd,wo L,[L + 1,L + 2,L + 3,L + 4]⟩) :
    Snd C A ⟨envOfC "law" (dpOf "law").scope L fa cd,wo L,[L + 1,L + 2,L + 3,L + 4]⟩ FR (execs (dpOf "law").body (envOfC "law" (dpOf "law").scope L fa cd)) (zk4 n planF sa ns) := by
  have hu : A.units < cLine := by have := hA.units; exact o4 this
  have hu1 : A.units + 1 < cLine := by have := hA.units; exact o5 hu this
  exact (zb (zh K (snd_cat K (zkh K hl hi hz (za K rfl rfl) zg) (q0 (zc K zg (zc K zg (zc K zg ze))))) rfl rfl) (zb (zh K (zv K (q0 (zc K vk (zc K vk (zc K vk (zc K vk (zc K vk ze)))))) (zn K (qh K (G.b _ (by decide)) rfl (by decide) rfl (zc K (za K rfl rfl) ze) (sum_ok hA.handled)) zg wz)) rfl rfl) (zb (jy K (q0 ze) rfl rfl rfl (by simp)) (zb (zh K (q0 ze) rfl rfl) (zb (zh K zg rfl rfl) (zb (zh K (qq rfl) rfl rfl) (zb (xg K hA.handled (q8 K (G.b _ (by decide)) rfl (by decide) rfl (zc K (qh K (G.b _ (by decide)) rfl (by decide) rfl (zc K (za K rfl rfl) ze) yg) ze) y1) (z9 K rfl rfl) (zb (zh K (zv K (za K rfl rfl) (za K rfl rfl)) rfl rfl) (zb (ql (qg K qe q9 PySem.F.slot_list_append zx (z6 K rfl rfl rfl) (zc K (jb (zc K (za K rfl rfl) (zc K (zn K (za K rfl rfl) zg wz) (zc K (zn K zg (zn K (zn K (za K rfl rfl) zg ud) zg wz) qx) ze)))) ze) (qu K)) rfl) (zb (zh K (q8 K (G.b _ (by decide)) rfl (by decide) rfl (zc K (q0 (zc K (zn K zg (zn K (zn K (zn K (za K rfl rfl) zg ud) zg wz) zg zam) qx) (zc K (zn K zg (zn K (za K rfl rfl) zg wz) qx) (zc K (zn K zg (zn K (zn K (za K rfl rfl) zg ud) zg wz) qx) ze)))) ze) (yb hA.handled)) rfl rfl) (zb (zh K (zn K (za K rfl rfl) (zn K (zn K (zn K (za K rfl rfl) zg ud) (za K rfl rfl) qx) zg wz) qx) rfl rfl) (zb (ql (qg K qe q9 PySem.F.slot_list_append zx (za K rfl rfl) (zc K (qd K h_law_written.1 rfl (zc K (za K rfl rfl) (zc K (za K rfl rfl) ze)) hA h_law_written.2) ze) (qu K)) rfl) (zb (z7 (zf K (qd K h_b64encode.1 rfl (zc K (za K rfl rfl) (zc K (za K rfl rfl) ze)) hA h_b64encode.2) (qd K h_law_octets.1 rfl (zc K (zv K (za K rfl rfl) (zic zg zim)) ze) hA h_law_octets.2) (xn hu)) (zb (zp xz) zi) zi) (zb (zh K (zn K (zn K (za K rfl rfl) (qd K h_law_spelled.1 rfl (zc K (zv K (za K rfl rfl) (zic zg zim)) (zc K (zn K (za K rfl rfl) zg ud) ze)) hA h_law_spelled.2) qx) (zn K (qq rfl) (zn K (zn K (zn K (za K rfl rfl) zg ud) (za K rfl rfl) qx) zg wz) zam) qx) rfl rfl) zi))))))) n) (zb (zh K (q8 K (G.b _ (by decide)) rfl (by decide) rfl (zc K (qh K (G.b _ (by decide)) rfl (by decide) rfl (zc K (z6 K rfl rfl rfl) ze) yg) ze) y1) rfl rfl) (zb (um K hA.handled (qd K h_law_plan.1 rfl (zc K (za K rfl rfl) (zc K (za K rfl rfl) ze)) hA h_law_plan.2) (.cons (uj K rfl rfl rfl (by simp)) rfl (.cons (z9 K rfl rfl) rfl .nil))) (zb (z7 (zz (zf K (za K rfl rfl) (za K rfl rfl) (xn hu)) (km (zf K (ko K hA.handled (za K rfl rfl) n (own := ["k"]) (cap := [14]) (capS := [("plan",some (L + 2))]) (cl := [("plan",L + 2)]) rfl rfl (cap1 rfl) (xc K rfl (show (["k", "plan"] : List Str).Nodup by decide) (by simp [qt])) (fun Cc K => (z9 K rfl rfl)) (fun Cc K => jo) (fun Cc K => (qg K qe q9 PySem.F.slot_list_count zd3 (z6 K rfl rfl rfl) (zc K (za K rfl rfl) ze) count_ok))) (ko K hA.handled (za K rfl rfl) n (own := ["k"]) (cap := [3]) (capS := [("works",some (L + 1))]) (cl := [("works",L + 1)]) rfl rfl (cap1 rfl) (xc K rfl (show (["k", "works"] : List Str).Nodup by decide) (by simp [qt])) (fun Cc K => (z9 K rfl rfl)) (fun Cc K => jo) (fun Cc K => (zv K (zv K (z6 K rfl rfl rfl) (za K rfl rfl)) zg))) (xn hu)))) (zb (zp xz) zi) zi) (zb (z7 (zf K (qh K (G.b _ (by decide)) rfl (by decide) rfl (zc K (ko K hA.handled (za K rfl rfl) n (own := ["k"]) (cap := [14,3]) (capS := [("plan",some (L + 2)),("works",some (L + 1))]) (cl := [("works",L + 1),("plan",L + 2)]) rfl rfl (cap2 rfl rfl) (xc K rfl (show (["k", "plan", "works"] : List Str).Nodup by decide) (by simp [qt])) (fun Cc K => (z9 K rfl rfl)) (fun Cc K => jo) (fun Cc K => (zn K (zn K (qh K (G.b _ (by decide)) rfl (by decide) rfl (zc K (z6 K rfl rfl rfl) ze) yg) (qg K qe q9 PySem.F.slot_list_index zd2 (snd_rev (z6 K rfl rfl rfl) zkx) (zc K (za K rfl rfl) ze) index_ok) ks) (zv K (zv K (z6 K rfl rfl rfl) (za K rfl rfl)) zg) ks))) ze) (zin hA.handled)) (qd K h_law_least_lateness.1 rfl (zc K (z6 K rfl rfl rfl) ze) hA h_law_least_lateness.2) (xn hu)) (zb (zp xz) zi) zi) (zb (jy K (ko K hA.handled (za K rfl rfl) n (own := ["k"]) (cap := [3]) (capS := [("works",some (L + 1))]) (cl := [("works",L + 1)]) rfl rfl (cap1 rfl) (xc K rfl (show (["k", "works"] : List Str).Nodup by decide) (by simp [qt])) (fun Cc K => (z9 K rfl rfl)) (fun Cc K => jo) (fun Cc K => (qd K h_law_last_hour.1 rfl (zc K (z6 K rfl rfl rfl) (zc K (za K rfl rfl) ze)) hA h_law_last_hour.2))) rfl rfl rfl (by simp)) (zb (zh K (q0 ze) rfl rfl) (zb (xg K hA.handled (q8 K (G.b _ (by decide)) rfl (by decide) rfl (zc K zg (zc K (zn K (qh K (G.b _ (by decide)) rfl (by decide) rfl (zc K (z6 K rfl rfl rfl) ze) (zin hA.handled)) zg qx) ze)) y1) (uj K rfl rfl rfl (by simp)) (zb (xh K hA.handled (za K rfl rfl) n (own := ["k"]) (cap := [11,9,3]) (capS := [("hour",some (L + 4)),("last",some (L + 3)),("works",some (L + 1))]) (cl := [("works",L + 1),("last",L + 3),("hour",L + 4)]) rfl rfl rfl rfl rfl (cap3 rfl rfl rfl) (xc K rfl (show (["k", "hour", "last", "works"] : List Str).Nodup by decide) (by simp [qt])) (fun Cc K => (z9 K rfl rfl)) (fun Cc K => (zde (qo (zf K (zv K (zv K (z6 K rfl rfl rfl) (za K rfl rfl)) zg) (z6 K rfl rfl rfl) (uv hu)) (qi (zf K (z6 K rfl rfl rfl) (zv K (z6 K rfl rfl rfl) (za K rfl rfl)) (uv hu)))))) (fun Cc K => (jb (zc K (zv K (zv K (z6 K rfl rfl rfl) (za K rfl rfl)) zg) (zc K (za K rfl rfl) ze))))) (zb (ql (qg K qe q9 PySem.F.slot_list_append zx (za K rfl rfl) (zc K (vj (zf K (za K rfl rfl) (q0 ze) (xn hu)) (zv K (qh K (G.b _ (by decide)) rfl (by decide) rfl (zc K (za K rfl rfl) ze) (min_ok hA.handled hu1)) zg) (zic zg zim)) ze) (qu K)) rfl) zi)) n) (zb (zp (snd_cmp K (z6 K rfl rfl rfl) (za K rfl rfl) (vl hu))) zi)))))))))))))))
end Mine
end
section
set_option tactic.hygienic true
set_option maxHeartbeats 8000000
namespace Mine
open PySem PySem.W PyProof.Rows
noncomputable def zax (n : Str) : DP := dpIn n (match PySem.Challenge.pw_oy0116_01.main.body with | _ :: _ :: .ClassDef _ _ _ b .. :: _ => b | _ => [])
noncomputable def keepS : List Bool→List Stmt→List Stmt
  | true :: bs,s :: r => s :: keepS bs r
  | false :: bs,_ :: r => keepS bs r
  | _,_ => []
noncomputable abbrev en (P : Params) (x : String) (n : Nat) (v : Value) : DictEntry := DictEntry.mk (PyData.keyHash P (Str.ofString x)) (Value.str (Str.ofString x) n) v
noncomputable def v9 (P : Params) : Frag :=
  ((nat_lit 2,Obj.mk .none .none (.dict #[]) #[]) ::
   (nat_lit 3,.mk (.type "dict") .none (.dict #[en P "__name__" 165 (.str "law_oy0116_01" 419),en P "__doc__" 166 .none,en P "__package__" 167 .none,en P "__loader__" 168 (.builtin "__main__.__loader__#opaque"),en P "__spec__" 169 .none,en P "__annotations__" 170 (.ref 6),en P "__builtins__" 171 (.ref 4),en P "__file__" 173 (.str "/claim/cut.py" 172),en P "__cached__" 174 .none,en P "_wall" 193 (.ref 21),en P "_netrclex" 253 (.ref 59),en P "bytes_types" 256 (.ref 64),en P "_bytes_from_decode_data" 263 (.ref 71),en P "Error" 283 (.ref 81),en P "_ascii_buffer" 291 (.ref 91),en P "_buffer" 299 (.ref 98),en P "_truth" 307 (.ref 105),en P "_B64" 309 (.bytes #[65,66,67,68,69,70,71,72,73,74,75,76,77,78,79,80,81,82,83,84,85,86,87,88,89,90,97,98,99,100,101,102,103,104,105,106,107,108,109,110,111,112,113,114,115,116,117,118,119,120,121,122,48,49,50,51,52,53,54,55,56,57,43,47] 308),en P "_b64_value" 316 (.ref 112),en P "a2b_base64" 332 (.ref 120),en P "b2a_base64" 346 (.ref 128),en P "b64encode" 357 (.ref 136),en P "b64decode" 366 (.ref 144),en P "heappush" 376 (.ref 151),en P "heappop" 385 (.ref 158),en P "heappushpop" 393 (.ref 165),en P "_siftdown" 405 (.ref 172),en P "_siftup" 418 (.ref 179),en P "_law_octets" 426 (.ref 184),en P "_law_written" 432 (.ref 189),en P "_law_spelled" 438 (.ref 194),en P "_law_plan" 458 (.ref 201),en P "_law_last_hour" 471 (.ref 208),en P "_law_least_lateness" 477 (.ref 213),en P "law" 483 (.ref 218)] 35) #[]) ::
   (nat_lit 15,.mk (.type "tuple") .none (.seq #[]) #[]) ::
   (nat_lit 17,.mk (.type "tuple") .none (.seq #[.str "k" 190]) #[]) ::
   (nat_lit 18,.mk (.type "tuple") .none (.seq #[]) #[]) ::
   (nat_lit 20,.mk (.type "code") .none (.fields #[.str "_wall" 187,.str "_wall" 188,.str "/claim/cut.py" 189,.int 1 0,.int 1 0,.int 0 0,.int 0 0,.int 3 0,.ref 15,.bool true,.int 181 0,.ref 16,.none,.ref 17,.ref 18,.ref 19,.int 191 0,.int 1 0,.str "/claim/cut.py" 192]) #[]) ::
   (nat_lit 21,.mk (.type "function") .none (.func (.mk "_wall" "_wall" (dpOf "_wall").params (.stmts (dpOf "_wall").body) (dpOf "_wall").scope 3 [] .none .none .none (.str "__main__" 164) .none (.ref 20) .none 0)) #[]) ::
   (nat_lit 29,.mk (.type "tuple") .none (.seq #[]) #[]) ::
   (nat_lit 31,.mk (.type "tuple") .none (.seq #[.str "self" 211,.str "fp" 212]) #[]) ::
   (nat_lit 32,.mk (.type "tuple") .none (.seq #[]) #[]) ::
   (nat_lit 34,.mk (.type "code") .none (.fields #[.str "__init__" 208,.str "_netrclex.__init__" 209,.str "/claim/cut.py" 210,.int 7 0,.int 2 0,.int 0 0,.int 0 0,.int 3 0,.ref 29,.bool true,.int 181 0,.ref 30,.none,.ref 31,.ref 32,.ref 33,.int 213 0,.int 7 0,.str "/claim/cut.py" 214]) #[]) ::
   (nat_lit 35,.mk (.type "function") .none (.func (.mk "__init__" "_netrclex.__init__" (zax "__init__").params (.stmts (zax "__init__").body) (zax "__init__").scope 3 [] .none .none .none (.str "cpy313.netrc" 194) .none (.ref 34) .none 0)) #[]) ::
   (nat_lit 36,.mk (.type "tuple") .none (.seq #[]) #[]) ::
   (nat_lit 38,.mk (.type "tuple") .none (.seq #[.str "self" 219,.str "ch" 220]) #[]) ::
   (nat_lit 39,.mk (.type "tuple") .none (.seq #[]) #[]) ::
   (nat_lit 41,.mk (.type "code") .none (.fields #[.str "_read_char" 216,.str "_netrclex._read_char" 217,.str "/claim/cut.py" 218,.int 13 0,.int 1 0,.int 0 0,.int 0 0,.int 3 0,.ref 36,.bool true,.int 181 0,.ref 37,.none,.ref 38,.ref 39,.ref 40,.int 221 0,.int 13 0,.str "/claim/cut.py" 222]) #[]) ::
   (nat_lit 42,.mk (.type "function") .none (.func (.mk "_read_char" "_netrclex._read_char" (zax "_read_char").params (.stmts (zax "_read_char").body) (zax "_read_char").scope 3 [] .none .none .none (.str "cpy313.netrc" 194) .none (.ref 41) .none 0)) #[]) ::
   (nat_lit 43,.mk (.type "tuple") .none (.seq #[]) #[]) ::
   (nat_lit 45,.mk (.type "tuple") .none (.seq #[.str "self" 227,.str "token" 228,.str "fiter" 229,.str "ch" 230]) #[]) ::
   (nat_lit 46,.mk (.type "tuple") .none (.seq #[]) #[]) ::
   (nat_lit 48,.mk (.type "code") .none (.fields #[.str "get_token" 224,.str "_netrclex.get_token" 225,.str "/claim/cut.py" 226,.int 19 0,.int 1 0,.int 0 0,.int 0 0,.int 3 0,.ref 43,.bool true,.int 181 0,.ref 44,.none,.ref 45,.ref 46,.ref 47,.int 231 0,.int 19 0,.str "/claim/cut.py" 232]) #[]) ::
   (nat_lit 49,.mk (.type "function") .none (.func (.mk "get_token" "_netrclex.get_token" (zax "get_token").params (.stmts (zax "get_token").body) (zax "get_token").scope 3 [] .none .none .none (.str "cpy313.netrc" 194) .none (.ref 48) .none 0)) #[]) ::
   (nat_lit 50,.mk (.type "tuple") .none (.seq #[]) #[]) ::
   (nat_lit 52,.mk (.type "tuple") .none (.seq #[.str "self" 237,.str "token" 238]) #[]) ::
   (nat_lit 53,.mk (.type "tuple") .none (.seq #[]) #[]) ::
   (nat_lit 55,.mk (.type "code") .none (.fields #[.str "push_token" 234,.str "_netrclex.push_token" 235,.str "/claim/cut.py" 236,.int 46 0,.int 2 0,.int 0 0,.int 0 0,.int 3 0,.ref 50,.bool true,.int 181 0,.ref 51,.none,.ref 52,.ref 53,.ref 54,.int 239 0,.int 46 0,.str "/claim/cut.py" 240]) #[]) ::
   (nat_lit 56,.mk (.type "function") .none (.func (.mk "push_token" "_netrclex.push_token" (zax "push_token").params (.stmts (zax "push_token").body) (zax "push_token").scope 3 [] .none .none .none (.str "cpy313.netrc" 194) .none (.ref 55) .none 0)) #[]) ::
   (nat_lit 57,.mk (.type "tuple") .none (.seq #[.str "instream" 242,.str "lineno" 243,.str "pushback" 244,.str "whitespace" 245]) #[]) ::
   (nat_lit 58,.mk (.type "dict") .none (.dict #[en P "__module__" 203 (.str "cpy313.netrc" 194),en P "__firstlineno__" 207 (.int 5 206),en P "__init__" 215 (.ref 35),en P "_read_char" 223 (.ref 42),en P "get_token" 233 (.ref 49),en P "push_token" 241 (.ref 56),en P "__static_attributes__" 246 (.ref 57),en P "__dict__" 248 (.ref 60),en P "__weakref__" 250 (.ref 61),en P "__doc__" 251 .none] 4) #[]) ::
   (nat_lit 59,.mk (.type "type") .none (.cls (.mk "_netrclex" [.type "object"] [.ref 59,.type "object"] 58 "_netrclex" true [] [] false .none false)) #[.none,.none,some (.str "_netrclex" 196),some (.str "_netrclex" 204),some (.builtin "object.__new__"),some (.bool true)]) ::
   (nat_lit 60,.mk (.type "getset_descriptor") .none (.fields #[.str "__dict__" 247,.ref 59,.builtin "function.__dict__",.builtin "function.__dict__#set"]) #[]) ::
   (nat_lit 61,.mk (.type "getset_descriptor") .none (.fields #[.str "__weakref__" 249,.ref 59,.builtin "ExceptionGroup.__weakref__",.none]) #[]) ::
   (nat_lit 64,.mk (.type "tuple") .none (.seq #[.type "bytes",.type "bytearray"]) #[]) ::
   (nat_lit 65,.mk (.type "tuple") .none (.seq #[]) #[]) ::
   (nat_lit 67,.mk (.type "tuple") .none (.seq #[.str "s" 260]) #[]) ::
   (nat_lit 68,.mk (.type "tuple") .none (.seq #[]) #[]) ::
   (nat_lit 70,.mk (.type "code") .none (.fields #[.str "_bytes_from_decode_data" 257,.str "_bytes_from_decode_data" 258,.str "/claim/cut.py" 259,.int 50 0,.int 1 0,.int 0 0,.int 0 0,.int 3 0,.ref 65,.bool true,.int 181 0,.ref 66,.none,.ref 67,.ref 68,.ref 69,.int 261 0,.int 50 0,.str "/claim/cut.py" 262]) #[]) ::
   (nat_lit 71,.mk (.type "function") .none (.func (.mk "_bytes_from_decode_data" "_bytes_from_decode_data" (dpOf "_bytes_from_decode_data").params (.stmts (dpOf "_bytes_from_decode_data").body) (dpOf "_bytes_from_decode_data").scope 3 [] .none .none .none (.str "cpy313.base64" 254) .none (.ref 70) .none 0)) #[]) ::
   (nat_lit 72,.mk (.type "tuple") .none (.seq #[.type "ValueError"]) #[]) ::
   (nat_lit 79,.mk (.type "tuple") .none (.seq #[]) #[]) ::
   (nat_lit 80,.mk (.type "dict") .none (.dict #[en P "__module__" 273 (.str "binascii" 264),en P "__firstlineno__" 277 (.int 63 276),en P "__static_attributes__" 278 (.ref 79),en P "__weakref__" 280 (.ref 82),en P "__doc__" 281 .none] 3) #[]) ::
   (nat_lit 81,.mk (.type "type") .none (.cls (.mk "Error" [.type "ValueError"] [.ref 81,.type "ValueError",.type "Exception",.type "BaseException",.type "object"] 80 "Error" true [] [] false .none false)) #[some (.ref 72),.none,some (.str "Error" 266),some (.str "Error" 274),some (.builtin "ValueError.__new__"),some (.bool true)]) ::
   (nat_lit 82,.mk (.type "getset_descriptor") .none (.fields #[.str "__weakref__" 279,.ref 81,.builtin "ExceptionGroup.__weakref__",.none]) #[]) ::
   (nat_lit 85,.mk (.type "tuple") .none (.seq #[]) #[]) ::
   (nat_lit 87,.mk (.type "tuple") .none (.seq #[.str "data" 287,.str "t" 288]) #[]) ::
   (nat_lit 88,.mk (.type "tuple") .none (.seq #[]) #[]) ::
   (nat_lit 90,.mk (.type "code") .none (.fields #[.str "_ascii_buffer" 284,.str "_ascii_buffer" 285,.str "/claim/cut.py" 286,.int 65 0,.int 1 0,.int 0 0,.int 0 0,.int 3 0,.ref 85,.bool true,.int 181 0,.ref 86,.none,.ref 87,.ref 88,.ref 89,.int 289 0,.int 65 0,.str "/claim/cut.py" 290]) #[]) ::
   (nat_lit 91,.mk (.type "function") .none (.func (.mk "_ascii_buffer" "_ascii_buffer" (dpOf "_ascii_buffer").params (.stmts (dpOf "_ascii_buffer").body) (dpOf "_ascii_buffer").scope 3 [] .none .none .none (.str "binascii" 264) .none (.ref 90) .none 0)) #[]) ::
   (nat_lit 92,.mk (.type "tuple") .none (.seq #[]) #[]) ::
   (nat_lit 94,.mk (.type "tuple") .none (.seq #[.str "data" 295,.str "t" 296]) #[]) ::
   (nat_lit 95,.mk (.type "tuple") .none (.seq #[]) #[]) ::
   (nat_lit 97,.mk (.type "code") .none (.fields #[.str "_buffer" 292,.str "_buffer" 293,.str "/claim/cut.py" 294,.int 76 0,.int 1 0,.int 0 0,.int 0 0,.int 3 0,.ref 92,.bool true,.int 181 0,.ref 93,.none,.ref 94,.ref 95,.ref 96,.int 297 0,.int 76 0,.str "/claim/cut.py" 298]) #[]) ::
   (nat_lit 98,.mk (.type "function") .none (.func (.mk "_buffer" "_buffer" (dpOf "_buffer").params (.stmts (dpOf "_buffer").body) (dpOf "_buffer").scope 3 [] .none .none .none (.str "binascii" 264) .none (.ref 97) .none 0)) #[]) ::
   (nat_lit 99,.mk (.type "tuple") .none (.seq #[]) #[]) ::
   (nat_lit 101,.mk (.type "tuple") .none (.seq #[.str "x" 303,.str "t" 304]) #[]) ::
   (nat_lit 102,.mk (.type "tuple") .none (.seq #[]) #[]) ::
   (nat_lit 104,.mk (.type "code") .none (.fields #[.str "_truth" 300,.str "_truth" 301,.str "/claim/cut.py" 302,.int 83 0,.int 1 0,.int 0 0,.int 0 0,.int 3 0,.ref 99,.bool true,.int 181 0,.ref 100,.none,.ref 101,.ref 102,.ref 103,.int 305 0,.int 83 0,.str "/claim/cut.py" 306]) #[]) ::
   (nat_lit 105,.mk (.type "function") .none (.func (.mk "_truth" "_truth" (dpOf "_truth").params (.stmts (dpOf "_truth").body) (dpOf "_truth").scope 3 [] .none .none .none (.str "binascii" 264) .none (.ref 104) .none 0)) #[]) ::
   (nat_lit 106,.mk (.type "tuple") .none (.seq #[]) #[]) ::
   (nat_lit 108,.mk (.type "tuple") .none (.seq #[.str "c" 313]) #[]) ::
   (nat_lit 109,.mk (.type "tuple") .none (.seq #[]) #[]) ::
   (nat_lit 111,.mk (.type "code") .none (.fields #[.str "_b64_value" 310,.str "_b64_value" 311,.str "/claim/cut.py" 312,.int 89 0,.int 1 0,.int 0 0,.int 0 0,.int 3 0,.ref 106,.bool true,.int 181 0,.ref 107,.none,.ref 108,.ref 109,.ref 110,.int 314 0,.int 89 0,.str "/claim/cut.py" 315]) #[]) ::
   (nat_lit 112,.mk (.type "function") .none (.func (.mk "_b64_value" "_b64_value" (dpOf "_b64_value").params (.stmts (dpOf "_b64_value").body) (dpOf "_b64_value").scope 3 [] .none .none .none (.str "binascii" 264) .none (.ref 111) .none 0)) #[]) ::
   (nat_lit 113,.mk (.type "dict") .none (.dict #[en P "strict_mode" 317 (.bool false)] 1) #[]) ::
   (nat_lit 114,.mk (.type "tuple") .none (.seq #[]) #[]) ::
   (nat_lit 116,.mk (.type "tuple") .none (.seq #[.str "data" 321,.str "strict_mode" 322,.str "ascii_data" 323,.str "out" 324,.str "quad_pos" 325,.str "leftchar" 326,.str "pads" 327,.str "i" 328,.str "this_ch" 329]) #[]) ::
   (nat_lit 117,.mk (.type "tuple") .none (.seq #[]) #[]) ::
   (nat_lit 119,.mk (.type "code") .none (.fields #[.str "a2b_base64" 318,.str "a2b_base64" 319,.str "/claim/cut.py" 320,.int 101 0,.int 1 0,.int 1 0,.int 1 0,.int 3 0,.ref 114,.bool true,.int 181 0,.ref 115,.none,.ref 116,.ref 117,.ref 118,.int 330 0,.int 101 0,.str "/claim/cut.py" 331]) #[]) ::
   (nat_lit 120,.mk (.type "function") .none (.func (.mk "a2b_base64" "a2b_base64" (dpOf "a2b_base64").params (.stmts (dpOf "a2b_base64").body) (dpOf "a2b_base64").scope 3 [] .none (.ref 113) .none (.str "binascii" 264) .none (.ref 119) .none 0)) #[]) ::
   (nat_lit 121,.mk (.type "dict") .none (.dict #[en P "newline" 333 (.bool true)] 1) #[]) ::
   (nat_lit 122,.mk (.type "tuple") .none (.seq #[]) #[]) ::
   (nat_lit 124,.mk (.type "tuple") .none (.seq #[.str "data" 337,.str "newline" 338,.str "bin_data" 339,.str "out" 340,.str "leftbits" 341,.str "leftchar" 342,.str "b" 343]) #[]) ::
   (nat_lit 125,.mk (.type "tuple") .none (.seq #[]) #[]) ::
   (nat_lit 127,.mk (.type "code") .none (.fields #[.str "b2a_base64" 334,.str "b2a_base64" 335,.str "/claim/cut.py" 336,.int 155 0,.int 1 0,.int 1 0,.int 1 0,.int 3 0,.ref 122,.bool true,.int 181 0,.ref 123,.none,.ref 124,.ref 125,.ref 126,.int 344 0,.int 155 0,.str "/claim/cut.py" 345]) #[]) ::
   (nat_lit 128,.mk (.type "function") .none (.func (.mk "b2a_base64" "b2a_base64" (dpOf "b2a_base64").params (.stmts (dpOf "b2a_base64").body) (dpOf "b2a_base64").scope 3 [] .none (.ref 121) .none (.str "binascii" 264) .none (.ref 127) .none 0)) #[]) ::
   (nat_lit 129,.mk (.type "tuple") .none (.seq #[.none]) #[]) ::
   (nat_lit 130,.mk (.type "tuple") .none (.seq #[]) #[]) ::
   (nat_lit 132,.mk (.type "tuple") .none (.seq #[.str "s" 352,.str "altchars" 353,.str "encoded" 354]) #[]) ::
   (nat_lit 133,.mk (.type "tuple") .none (.seq #[]) #[]) ::
   (nat_lit 135,.mk (.type "code") .none (.fields #[.str "b64encode" 349,.str "b64encode" 350,.str "/claim/cut.py" 351,.int 178 0,.int 2 0,.int 0 0,.int 0 0,.int 3 0,.ref 130,.bool true,.int 181 0,.ref 131,.none,.ref 132,.ref 133,.ref 134,.int 355 0,.int 178 0,.str "/claim/cut.py" 356]) #[]) ::
   (nat_lit 136,.mk (.type "function") .none (.func (.mk "b64encode" "b64encode" (dpOf "b64encode").params (.stmts (dpOf "b64encode").body) (dpOf "b64encode").scope 3 [] (.ref 129) .none .none (.str "cpy313.base64" 347) .none (.ref 135) .none 0)) #[]) ::
   (nat_lit 137,.mk (.type "tuple") .none (.seq #[.none,.bool false]) #[]) ::
   (nat_lit 138,.mk (.type "tuple") .none (.seq #[]) #[]) ::
   (nat_lit 140,.mk (.type "tuple") .none (.seq #[.str "s" 361,.str "altchars" 362,.str "validate" 363]) #[]) ::
   (nat_lit 141,.mk (.type "tuple") .none (.seq #[]) #[]) ::
   (nat_lit 143,.mk (.type "code") .none (.fields #[.str "b64decode" 358,.str "b64decode" 359,.str "/claim/cut.py" 360,.int 184 0,.int 3 0,.int 0 0,.int 0 0,.int 3 0,.ref 138,.bool true,.int 181 0,.ref 139,.none,.ref 140,.ref 141,.ref 142,.int 364 0,.int 184 0,.str "/claim/cut.py" 365]) #[]) ::
   (nat_lit 144,.mk (.type "function") .none (.func (.mk "b64decode" "b64decode" (dpOf "b64decode").params (.stmts (dpOf "b64decode").body) (dpOf "b64decode").scope 3 [] (.ref 137) .none .none (.str "cpy313.base64" 347) .none (.ref 143) .none 0)) #[]) ::
   (nat_lit 145,.mk (.type "tuple") .none (.seq #[]) #[]) ::
   (nat_lit 147,.mk (.type "tuple") .none (.seq #[.str "heap" 372,.str "item" 373]) #[]) ::
   (nat_lit 148,.mk (.type "tuple") .none (.seq #[]) #[]) ::
   (nat_lit 150,.mk (.type "code") .none (.fields #[.str "heappush" 369,.str "heappush" 370,.str "/claim/cut.py" 371,.int 192 0,.int 2 0,.int 0 0,.int 0 0,.int 3 0,.ref 145,.bool true,.int 181 0,.ref 146,.none,.ref 147,.ref 148,.ref 149,.int 374 0,.int 192 0,.str "/claim/cut.py" 375]) #[]) ::
   (nat_lit 151,.mk (.type "function") .none (.func (.mk "heappush" "heappush" (dpOf "heappush").params (.stmts (dpOf "heappush").body) (dpOf "heappush").scope 3 [] .none .none .none (.str "cpy313.heapq" 367) .none (.ref 150) .none 0)) #[]) ::
   (nat_lit 152,.mk (.type "tuple") .none (.seq #[]) #[]) ::
   (nat_lit 154,.mk (.type "tuple") .none (.seq #[.str "heap" 380,.str "lastelt" 381,.str "returnitem" 382]) #[]) ::
   (nat_lit 155,.mk (.type "tuple") .none (.seq #[]) #[]) ::
   (nat_lit 157,.mk (.type "code") .none (.fields #[.str "heappop" 377,.str "heappop" 378,.str "/claim/cut.py" 379,.int 195 0,.int 1 0,.int 0 0,.int 0 0,.int 3 0,.ref 152,.bool true,.int 181 0,.ref 153,.none,.ref 154,.ref 155,.ref 156,.int 383 0,.int 195 0,.str "/claim/cut.py" 384]) #[]) ::
   (nat_lit 158,.mk (.type "function") .none (.func (.mk "heappop" "heappop" (dpOf "heappop").params (.stmts (dpOf "heappop").body) (dpOf "heappop").scope 3 [] .none .none .none (.str "cpy313.heapq" 367) .none (.ref 157) .none 0)) #[]) ::
   (nat_lit 159,.mk (.type "tuple") .none (.seq #[]) #[]) ::
   (nat_lit 161,.mk (.type "tuple") .none (.seq #[.str "heap" 389,.str "item" 390]) #[]) ::
   (nat_lit 162,.mk (.type "tuple") .none (.seq #[]) #[]) ::
   (nat_lit 164,.mk (.type "code") .none (.fields #[.str "heappushpop" 386,.str "heappushpop" 387,.str "/claim/cut.py" 388,.int 203 0,.int 2 0,.int 0 0,.int 0 0,.int 3 0,.ref 159,.bool true,.int 181 0,.ref 160,.none,.ref 161,.ref 162,.ref 163,.int 391 0,.int 203 0,.str "/claim/cut.py" 392]) #[]) ::
   (nat_lit 165,.mk (.type "function") .none (.func (.mk "heappushpop" "heappushpop" (dpOf "heappushpop").params (.stmts (dpOf "heappushpop").body) (dpOf "heappushpop").scope 3 [] .none .none .none (.str "cpy313.heapq" 367) .none (.ref 164) .none 0)) #[]) ::
   (nat_lit 166,.mk (.type "tuple") .none (.seq #[]) #[]) ::
   (nat_lit 168,.mk (.type "tuple") .none (.seq #[.str "heap" 397,.str "startpos" 398,.str "pos" 399,.str "newitem" 400,.str "parentpos" 401,.str "parent" 402]) #[]) ::
   (nat_lit 169,.mk (.type "tuple") .none (.seq #[]) #[]) ::
   (nat_lit 171,.mk (.type "code") .none (.fields #[.str "_siftdown" 394,.str "_siftdown" 395,.str "/claim/cut.py" 396,.int 208 0,.int 3 0,.int 0 0,.int 0 0,.int 3 0,.ref 166,.bool true,.int 181 0,.ref 167,.none,.ref 168,.ref 169,.ref 170,.int 403 0,.int 208 0,.str "/claim/cut.py" 404]) #[]) ::
   (nat_lit 172,.mk (.type "function") .none (.func (.mk "_siftdown" "_siftdown" (dpOf "_siftdown").params (.stmts (dpOf "_siftdown").body) (dpOf "_siftdown").scope 3 [] .none .none .none (.str "cpy313.heapq" 367) .none (.ref 171) .none 0)) #[]) ::
   (nat_lit 173,.mk (.type "tuple") .none (.seq #[]) #[]) ::
   (nat_lit 175,.mk (.type "tuple") .none (.seq #[.str "heap" 409,.str "pos" 410,.str "endpos" 411,.str "startpos" 412,.str "newitem" 413,.str "childpos" 414,.str "rightpos" 415]) #[]) ::
   (nat_lit 176,.mk (.type "tuple") .none (.seq #[]) #[]) ::
   (nat_lit 178,.mk (.type "code") .none (.fields #[.str "_siftup" 406,.str "_siftup" 407,.str "/claim/cut.py" 408,.int 219 0,.int 2 0,.int 0 0,.int 0 0,.int 3 0,.ref 173,.bool true,.int 181 0,.ref 174,.none,.ref 175,.ref 176,.ref 177,.int 416 0,.int 219 0,.str "/claim/cut.py" 417]) #[]) ::
   (nat_lit 179,.mk (.type "function") .none (.func (.mk "_siftup" "_siftup" (dpOf "_siftup").params (.stmts (dpOf "_siftup").body) (dpOf "_siftup").scope 3 [] .none .none .none (.str "cpy313.heapq" 367) .none (.ref 178) .none 0)) #[]) ::
   (nat_lit 180,.mk (.type "tuple") .none (.seq #[]) #[]) ::
   (nat_lit 183,.mk (.type "code") .none (.fields #[.str "_law_octets" 421,.str "_law_octets" 422,.str "/claim/cut.py" 423,.int 234 0,.int 1 0,.int 0 0,.int 0 0,.int 3 0,.ref 180,.bool true,.int 181 0,.ref 181,.none,.none,.none,.ref 182,.int 424 0,.int 234 0,.str "/claim/cut.py" 425]) #[]) ::
   (nat_lit 184,.mk (.type "function") .none (.func (.mk "_law_octets" "_law_octets" (dpOf "_law_octets").params (.stmts (dpOf "_law_octets").body) (dpOf "_law_octets").scope 3 [] .none .none .none (.str "law_oy0116_01" 419) .none (.ref 183) .none 0)) #[]) ::
   (nat_lit 185,.mk (.type "tuple") .none (.seq #[]) #[]) ::
   (nat_lit 188,.mk (.type "code") .none (.fields #[.str "_law_written" 427,.str "_law_written" 428,.str "/claim/cut.py" 429,.int 236 0,.int 2 0,.int 0 0,.int 0 0,.int 3 0,.ref 185,.bool true,.int 181 0,.ref 186,.none,.none,.none,.ref 187,.int 430 0,.int 236 0,.str "/claim/cut.py" 431]) #[]) ::
   (nat_lit 189,.mk (.type "function") .none (.func (.mk "_law_written" "_law_written" (dpOf "_law_written").params (.stmts (dpOf "_law_written").body) (dpOf "_law_written").scope 3 [] .none .none .none (.str "law_oy0116_01" 419) .none (.ref 188) .none 0)) #[]) ::
   (nat_lit 190,.mk (.type "tuple") .none (.seq #[]) #[]) ::
   (nat_lit 193,.mk (.type "code") .none (.fields #[.str "_law_spelled" 433,.str "_law_spelled" 434,.str "/claim/cut.py" 435,.int 246 0,.int 2 0,.int 0 0,.int 0 0,.int 3 0,.ref 190,.bool true,.int 181 0,.ref 191,.none,.none,.none,.ref 192,.int 436 0,.int 246 0,.str "/claim/cut.py" 437]) #[]) ::
   (nat_lit 194,.mk (.type "function") .none (.func (.mk "_law_spelled" "_law_spelled" (dpOf "_law_spelled").params (.stmts (dpOf "_law_spelled").body) (dpOf "_law_spelled").scope 3 [] .none .none .none (.str "law_oy0116_01" 419) .none (.ref 193) .none 0)) #[]) ::
   (nat_lit 195,.mk (.type "tuple") .none (.seq #[]) #[]) ::
   (nat_lit 197,.mk (.type "tuple") .none (.seq #[.str "text" 442,.str "pair" 443,.str "read" 444,.str "stream" 445,.str "lexer" 446,.str "heap" 447,.str "plan" 448,.str "heard" 449,.str "came" 450,.str "hour" 451,.str "in_hand" 452,.str "word" 453,.str "octets" 454]) #[]) ::
   (nat_lit 198,.mk (.type "tuple") .none (.seq #[.str "signs" 455]) #[]) ::
   (nat_lit 200,.mk (.type "code") .none (.fields #[.str "_law_plan" 439,.str "_law_plan" 440,.str "/claim/cut.py" 441,.int 250 0,.int 2 0,.int 0 0,.int 0 0,.int 3 0,.ref 195,.bool true,.int 181 0,.ref 196,.none,.ref 197,.ref 198,.ref 199,.int 456 0,.int 250 0,.str "/claim/cut.py" 457]) #[]) ::
   (nat_lit 201,.mk (.type "function") .none (.func (.mk "_law_plan" "_law_plan" (dpOf "_law_plan").params (.stmts (dpOf "_law_plan").body) (dpOf "_law_plan").scope 3 [] .none .none .none (.str "law_oy0116_01" 419) .none (.ref 200) .none 0)) #[]) ::
   (nat_lit 202,.mk (.type "tuple") .none (.seq #[]) #[]) ::
   (nat_lit 204,.mk (.type "tuple") .none (.seq #[.str "works" 462,.str "own" 463,.str "free" 464,.str "place" 465,.str "row" 466,.str "due" 467,.str "hours" 468]) #[]) ::
   (nat_lit 205,.mk (.type "tuple") .none (.seq #[]) #[]) ::
   (nat_lit 207,.mk (.type "code") .none (.fields #[.str "_law_last_hour" 459,.str "_law_last_hour" 460,.str "/claim/cut.py" 461,.int 284 0,.int 2 0,.int 0 0,.int 0 0,.int 3 0,.ref 202,.bool true,.int 181 0,.ref 203,.none,.ref 204,.ref 205,.ref 206,.int 469 0,.int 284 0,.str "/claim/cut.py" 470]) #[]) ::
   (nat_lit 208,.mk (.type "function") .none (.func (.mk "_law_last_hour" "_law_last_hour" (dpOf "_law_last_hour").params (.stmts (dpOf "_law_last_hour").body) (dpOf "_law_last_hour").scope 3 [] .none .none .none (.str "law_oy0116_01" 419) .none (.ref 207) .none 0)) #[]) ::
   (nat_lit 209,.mk (.type "tuple") .none (.seq #[]) #[]) ::
   (nat_lit 212,.mk (.type "code") .none (.fields #[.str "_law_least_lateness" 472,.str "_law_least_lateness" 473,.str "/claim/cut.py" 474,.int 291 0,.int 1 0,.int 0 0,.int 0 0,.int 3 0,.ref 209,.bool true,.int 181 0,.ref 210,.none,.none,.none,.ref 211,.int 475 0,.int 291 0,.str "/claim/cut.py" 476]) #[]) ::
   (nat_lit 213,.mk (.type "function") .none (.func (.mk "_law_least_lateness" "_law_least_lateness" (dpOf "_law_least_lateness").params (.stmts (dpOf "_law_least_lateness").body) (dpOf "_law_least_lateness").scope 3 [] .none .none .none (.str "law_oy0116_01" 419) .none (.ref 212) .none 0)) #[]) ::
   (nat_lit 214,.mk (.type "tuple") .none (.seq #[]) #[]) ::
   (nat_lit 217,.mk (.type "code") .none (.fields #[.str "law" 478,.str "law" 479,.str "/claim/cut.py" 480,.int 299 0,.int 1 0,.int 0 0,.int 0 0,.int 3 0,.ref 214,.bool true,.int 181 0,.ref 215,.none,.none,.none,.ref 216,.int 481 0,.int 299 0,.str "/claim/cut.py" 482]) #[]) ::
   (nat_lit 218,.mk (.type "function") .none (.func (.mk "law" "law" (dpOf "law").params (.stmts (dpOf "law").body) (dpOf "law").scope 3 [] .none .none .none (.str "law_oy0116_01" 419) .none (.ref 217) .none 0)) #[]) :: [])
noncomputable def viewK : Program := { PySem.Challenge.rw_oy0116_01.row.prog with main := { PySem.Challenge.rw_oy0116_01.row.prog.main with body := keepS [true,false,true,false,true,true,false,true,true,true,true,true,true,false,false,false,false,false,false,true,true,true,true,true,false,true,true,true,true,true,true,true] PySem.Challenge.rw_oy0116_01.row.prog.main.body } }
noncomputable def idsK : List Addr := [2,3,15,17,18,20,21,29,31,32,34,35,36,38,39,41,42,43,45,46,48,49,50,52,53,55,56,57,58,59,60,61,64,65,67,68,70,71,72,79,80,81,82,85,87,88,90,91,92,94,95,97,98,99,101,102,104,105,106,108,109,111,112,113,114,116,117,119,120,121,122,124,125,127,128,129,130,132,133,135,136,137,138,140,141,143,144,145,147,148,150,151,152,154,155,157,158,159,161,162,164,165,166,168,169,171,172,173,175,176,178,179,180,183,184,185,188,189,190,193,194,195,197,198,200,201,202,204,205,207,208,209,212,213,214,217,218]
noncomputable def looseK : List Str := ["bytes_types", "a2b_base64", "b2a_base64", "b64encode", "b64decode"]
theorem zew (P : Params) : idsK = (v9 P).map (·.1) := by kernel_rfl
end Mine
end
section
set_option tactic.hygienic true
set_option maxHeartbeats 8000000
namespace Mine
open PySem PySem.W PyProof.Rows
noncomputable abbrev hookK : Hook := kmHook v9 idsK zew [196]
theorem leftK : LeftO PySem.Challenge.rw_oy0116_01.row.prog viewK looseK (fun s => xlAt viewK [] s && recOk (RowW.records PySem.Challenge.rw_oy0116_01.row.toRowW) s) (Hook.obs hookK) (Hook.val hookK) 2682 := by
  intro w
  kernel_rfl
end Mine
end
section
set_option tactic.hygienic true
set_option maxHeartbeats 8000000
namespace Mine
open PySem PySem.W PyProof.Rows
theorem sk1 : namesResolve PySem.Challenge.rw_oy0116_01.row.prog = true := by kernel_rfl
theorem sk2 : namesMeet PySem.Challenge.rw_oy0116_01.row.prog PySem.Challenge.rw_oy0116_01.row.prog.main.body (fun _ n => attrL n) = true := by kernel_rfl
theorem sk3 : looksOpen PySem.Challenge.rw_oy0116_01.row.prog = true := by
  delta looksOpen
  refine look_both (look_both (look_both (look_both ?_ sk1) ?_) ?_) sk2 <;> kernel_rfl
theorem sk4 : PySem.Challenge.rw_oy0116_01.row.wellSaid = true := by
  delta OpenRow.wellSaid OpenRow.partSaid
  refine look_both (look_both ?_ ?_) ?_
  · iterate 13 (refine look_both ?_ ?_)
    · exact sk3
    all_goals kernel_rfl
  all_goals kernel_rfl
theorem saidK : PySem.Challenge.rw_oy0116_01.wellSaid = true := by
  delta OpenLaw.wellSaid
  iterate 18 (refine look_both ?_ ?_)
  · exact sk4
  all_goals kernel_rfl
end Mine
end
section
set_option maxHeartbeats 4000000
namespace Mine
open PySem PyProof.Rows PySem.W
structure Hd (C : Cx) : Prop where
  K : C.K = v9 C.w.params
theorem Hd.kin {C : Cx} (H : Hd C) : (v9 C.w.params).In C.H0 := by have := C.kin; rw [H.K] at this; exact this
theorem Hd.repin {C : Cx} (H : Hd C) (ps : List (Nat × Addr)) : Hd (C.repin ps) := ⟨H.K⟩
theorem jx {C : Cx} (H : Hd C) : FAt C "_bytes_from_decode_data" 71 .none .none :=
  ⟨⟨_,_,_,_,_,⟨⟨_,H.kin _ _ rfl,rfl⟩,⟨_,_,_,_,rfl,H.kin _ _ rfl,rfl,rfl⟩,rfl,rfl,rfl,rfl,rfl⟩⟩,mg_of H.kin C.g rfl⟩
theorem xb {C : Cx} (H : Hd C) : FAt C "_ascii_buffer" 91 .none .none :=
  ⟨⟨_,_,_,_,_,⟨⟨_,H.kin _ _ rfl,rfl⟩,⟨_,_,_,_,rfl,H.kin _ _ rfl,rfl,rfl⟩,rfl,rfl,rfl,rfl,rfl⟩⟩,mg_of H.kin C.g rfl⟩
theorem zdu {C : Cx} (H : Hd C) : FAt C "_buffer" 98 .none .none :=
  ⟨⟨_,_,_,_,_,⟨⟨_,H.kin _ _ rfl,rfl⟩,⟨_,_,_,_,rfl,H.kin _ _ rfl,rfl,rfl⟩,rfl,rfl,rfl,rfl,rfl⟩⟩,mg_of H.kin C.g rfl⟩
theorem zf8 {C : Cx} (H : Hd C) : FAt C "_truth" 105 .none .none :=
  ⟨⟨_,_,_,_,_,⟨⟨_,H.kin _ _ rfl,rfl⟩,⟨_,_,_,_,rfl,H.kin _ _ rfl,rfl,rfl⟩,rfl,rfl,rfl,rfl,rfl⟩⟩,mg_of H.kin C.g rfl⟩
theorem y9 {C : Cx} (H : Hd C) : FAt C "_b64_value" 112 .none .none :=
  ⟨⟨_,_,_,_,_,⟨⟨_,H.kin _ _ rfl,rfl⟩,⟨_,_,_,_,rfl,H.kin _ _ rfl,rfl,rfl⟩,rfl,rfl,rfl,rfl,rfl⟩⟩,mg_of H.kin C.g rfl⟩
theorem zaq {C : Cx} (H : Hd C) : FAt C "heappush" 151 .none .none :=
  ⟨⟨_,_,_,_,_,⟨⟨_,H.kin _ _ rfl,rfl⟩,⟨_,_,_,_,rfl,H.kin _ _ rfl,rfl,rfl⟩,rfl,rfl,rfl,rfl,rfl⟩⟩,mg_of H.kin C.g rfl⟩
theorem zb9 {C : Cx} (H : Hd C) : FAt C "heappop" 158 .none .none :=
  ⟨⟨_,_,_,_,_,⟨⟨_,H.kin _ _ rfl,rfl⟩,⟨_,_,_,_,rfl,H.kin _ _ rfl,rfl,rfl⟩,rfl,rfl,rfl,rfl,rfl⟩⟩,mg_of H.kin C.g rfl⟩
theorem xw {C : Cx} (H : Hd C) : FAt C "heappushpop" 165 .none .none :=
  ⟨⟨_,_,_,_,_,⟨⟨_,H.kin _ _ rfl,rfl⟩,⟨_,_,_,_,rfl,H.kin _ _ rfl,rfl,rfl⟩,rfl,rfl,rfl,rfl,rfl⟩⟩,mg_of H.kin C.g rfl⟩
theorem zap {C : Cx} (H : Hd C) : FAt C "_siftdown" 172 .none .none :=
  ⟨⟨_,_,_,_,_,⟨⟨_,H.kin _ _ rfl,rfl⟩,⟨_,_,_,_,rfl,H.kin _ _ rfl,rfl,rfl⟩,rfl,rfl,rfl,rfl,rfl⟩⟩,mg_of H.kin C.g rfl⟩
theorem zdt {C : Cx} (H : Hd C) : FAt C "_siftup" 179 .none .none :=
  ⟨⟨_,_,_,_,_,⟨⟨_,H.kin _ _ rfl,rfl⟩,⟨_,_,_,_,rfl,H.kin _ _ rfl,rfl,rfl⟩,rfl,rfl,rfl,rfl,rfl⟩⟩,mg_of H.kin C.g rfl⟩
theorem yi {C : Cx} (H : Hd C) : FAt C "_law_octets" 184 .none .none :=
  ⟨⟨_,_,_,_,_,⟨⟨_,H.kin _ _ rfl,rfl⟩,⟨_,_,_,_,rfl,H.kin _ _ rfl,rfl,rfl⟩,rfl,rfl,rfl,rfl,rfl⟩⟩,mg_of H.kin C.g rfl⟩
theorem xu {C : Cx} (H : Hd C) : FAt C "_law_written" 189 .none .none :=
  ⟨⟨_,_,_,_,_,⟨⟨_,H.kin _ _ rfl,rfl⟩,⟨_,_,_,_,rfl,H.kin _ _ rfl,rfl,rfl⟩,rfl,rfl,rfl,rfl,rfl⟩⟩,mg_of H.kin C.g rfl⟩
theorem xv {C : Cx} (H : Hd C) : FAt C "_law_spelled" 194 .none .none :=
  ⟨⟨_,_,_,_,_,⟨⟨_,H.kin _ _ rfl,rfl⟩,⟨_,_,_,_,rfl,H.kin _ _ rfl,rfl,rfl⟩,rfl,rfl,rfl,rfl,rfl⟩⟩,mg_of H.kin C.g rfl⟩
theorem wa {C : Cx} (H : Hd C) : FAt C "_law_last_hour" 208 .none .none :=
  ⟨⟨_,_,_,_,_,⟨⟨_,H.kin _ _ rfl,rfl⟩,⟨_,_,_,_,rfl,H.kin _ _ rfl,rfl,rfl⟩,rfl,rfl,rfl,rfl,rfl⟩⟩,mg_of H.kin C.g rfl⟩
theorem kc {C : Cx} (H : Hd C) : FAt C "_law_least_lateness" 213 .none .none :=
  ⟨⟨_,_,_,_,_,⟨⟨_,H.kin _ _ rfl,rfl⟩,⟨_,_,_,_,rfl,H.kin _ _ rfl,rfl,rfl⟩,rfl,rfl,rfl,rfl,rfl⟩⟩,mg_of H.kin C.g rfl⟩
theorem zc0 {C : Cx} (H : Hd C) : ∃ kV,FAt C "a2b_base64" 120 .none kV :=
  ⟨_,⟨_,_,_,_,_,⟨⟨_,H.kin _ _ rfl,rfl⟩,⟨_,_,_,_,rfl,H.kin _ _ rfl,rfl,rfl⟩,rfl,rfl,rfl,rfl,rfl⟩⟩,mg_of H.kin C.g rfl⟩
theorem zcz {C : Cx} (H : Hd C) : ∃ kV,FAt C "b2a_base64" 128 .none kV :=
  ⟨_,⟨_,_,_,_,_,⟨⟨_,H.kin _ _ rfl,rfl⟩,⟨_,_,_,_,rfl,H.kin _ _ rfl,rfl,rfl⟩,rfl,rfl,rfl,rfl,rfl⟩⟩,mg_of H.kin C.g rfl⟩
theorem zey {C : Cx} (H : Hd C) : ∃ dV,VR C.H0 [] (.tup [.none]) dV∧FAt C "b64encode" 136 dV .none := by
  refine ⟨_,?_,⟨_,_,_,_,_,⟨⟨_,H.kin _ _ rfl,rfl⟩,⟨_,_,_,_,rfl,H.kin _ _ rfl,rfl,rfl⟩,rfl,rfl,rfl,rfl,rfl⟩⟩,mg_of H.kin C.g rfl⟩
  refine .tup (H.kin _ _ rfl) rfl fun i v x e e' => ?_
  rcases i with _ | _ | i
  · simp at e e'; subst e e'; exact .none
  · simp at e
  · simp at e
theorem zez {C : Cx} (H : Hd C) : ∃ dV,VR C.H0 [] (.tup [.none,.bool false]) dV∧FAt C "b64decode" 144 dV .none := by
  refine ⟨_,?_,⟨_,_,_,_,_,⟨⟨_,H.kin _ _ rfl,rfl⟩,⟨_,_,_,_,rfl,H.kin _ _ rfl,rfl,rfl⟩,rfl,rfl,rfl,rfl,rfl⟩⟩,mg_of H.kin C.g rfl⟩
  refine .tup (H.kin _ _ rfl) rfl fun i v x e e' => ?_
  rcases i with _ | _ | i
  · simp at e e'; subst e e'; exact .none
  · simp at e e'; subst e e'; exact .bool _
  · simp at e
theorem zhh {C : Cx} (H : Hd C) : C.mg "_netrclex" = some (.ref 59) := mg_of H.kin C.g rfl
theorem zhi {C : Cx} (H : Hd C) : C.mg "_law_plan" = some (.ref 201) := mg_of H.kin C.g rfl
theorem zhw {C : Cx} (H : Hd C) : ∃ doc pm an ct,FnAt C 201 (fdOf "_law_plan" .none .none doc pm an (.ref 200) ct) :=
  ⟨_,_,_,_,⟨⟨_,H.kin _ _ rfl,rfl⟩,⟨_,_,_,_,rfl,H.kin _ _ rfl,rfl,rfl⟩,rfl,rfl,rfl,rfl,rfl⟩⟩
theorem gok {C : Cx} (H : Hd C) : GOk C := by
  refine ⟨fun x hx => ?_,⟨_,mg_of H.kin C.g rfl,.bytes B64L _⟩,⟨_,mg_of H.kin C.g rfl,?_⟩⟩
  · simp only [bNames,List.mem_cons,List.not_mem_nil,or_false] at hx
    rcases hx with rfl | rfl | rfl | rfl | rfl | rfl | rfl | rfl | rfl | rfl | rfl | rfl | rfl | rfl | rfl | rfl | rfl | rfl | rfl | rfl | rfl | rfl <;> exact mg_none_of H.kin C.g rfl
  · refine .tup (H.kin _ _ rfl) rfl fun i v x e e' => ?_
    rcases i with _ | _ | i
    · simp at e e'; subst e e'; exact .typ _
    · simp at e e'; subst e e'; exact .typ _
    · simp at e
theorem lexk (p : Params) : ClsBound (v9 p) 59 "_read_char" 42∧ClsMeth (v9 p) 59 "get_token" 49∧ClsMeth (v9 p) 59 "push_token" 56∧ClsMake (v9 p) 59 35 :=
  ⟨⟨⟨rfl,rfl,rfl⟩,rfl,rfl,rfl,rfl⟩,⟨rfl,rfl,rfl⟩,⟨rfl,rfl,rfl⟩,⟨rfl,rfl,rfl,rfl⟩⟩
theorem lexg (p : Params) : ClsGet (v9 p) 59 "lineno"∧ClsGet (v9 p) 59 "instream"∧ClsGet (v9 p) 59 "whitespace"∧ClsGet (v9 p) 59 "pushback" :=
  ⟨⟨rfl,rfl,rfl⟩,⟨rfl,rfl,rfl⟩,⟨rfl,rfl,rfl⟩,⟨rfl,rfl,rfl⟩⟩
theorem lexs (p : Params) : ClsSet (v9 p) 59 "lineno"∧ClsSet (v9 p) 59 "instream"∧ClsSet (v9 p) 59 "whitespace"∧ClsSet (v9 p) 59 "pushback" :=
  ⟨⟨rfl,rfl,rfl,rfl⟩,⟨rfl,rfl,rfl,rfl⟩,⟨rfl,rfl,rfl,rfl⟩,⟨rfl,rfl,rfl,rfl⟩⟩
theorem mat_init {C : Cx} (H : Hd C) : MAt C "__init__" 35 :=
  ⟨_,_,_,_,_,⟨⟨_,H.kin _ _ rfl,rfl⟩,⟨_,_,_,_,rfl,H.kin _ _ rfl,rfl,rfl⟩,rfl,rfl,rfl,rfl,rfl⟩⟩
theorem zel {C : Cx} (H : Hd C) : MAt C "_read_char" 42 :=
  ⟨_,_,_,_,_,⟨⟨_,H.kin _ _ rfl,rfl⟩,⟨_,_,_,_,rfl,H.kin _ _ rfl,rfl,rfl⟩,rfl,rfl,rfl,rfl,rfl⟩⟩
theorem zem {C : Cx} (H : Hd C) : MAt C "get_token" 49 :=
  ⟨_,_,_,_,_,⟨⟨_,H.kin _ _ rfl,rfl⟩,⟨_,_,_,_,rfl,H.kin _ _ rfl,rfl,rfl⟩,rfl,rfl,rfl,rfl,rfl⟩⟩
theorem zcv {C : Cx} (H : Hd C) : MAt C "push_token" 56 :=
  ⟨_,_,_,_,_,⟨⟨_,H.kin _ _ rfl,rfl⟩,⟨_,_,_,_,rfl,H.kin _ _ rfl,rfl,rfl⟩,rfl,rfl,rfl,rfl,rfl⟩⟩
theorem lex {C : Cx} (H : Hd C) : Lex C 59 35 42 49 56∧ClsMake C.K 59 35 := by
  have k := lexk C.w.params; have g := lexg C.w.params; have s := lexs C.w.params
  rw [← H.K] at k g s
  exact ⟨⟨g.1,g.2.1,g.2.2.1,g.2.2.2,s.1,s.2.1,s.2.2.1,s.2.2.2,k.1,k.1.toClsMeth,k.2.1,k.2.2.1,mat_init H,zel H,zem H,zcv H⟩,k.2.2.2⟩
theorem zby {C : Cx} (H : Hd C) (n : Nat) : C.mg "_siftdown" = some (.ref 172)∧FnOk C 1 172 [] (kd n) := ⟨(zap H).mg,zg7 n (zap H)⟩
theorem zfv {C : Cx} (H : Hd C) (n : Nat) : C.mg "_siftup" = some (.ref 179)∧FnOk C 2 179 [] (vf n) := ⟨(zdt H).mg,zkl n (gok H) (zby H n) (zdt H)⟩
theorem zhf {C : Cx} (H : Hd C) (n : Nat) : C.mg "heappush" = some (.ref 151)∧FnOk C 4 151 [] (ki n) := ⟨(zaq H).mg,(zht n (gok H) (zby H n) (zaq H)).le (by decide)⟩
theorem zi8 {C : Cx} (H : Hd C) (n : Nat) : C.mg "heappop" = some (.ref 158)∧FnOk C 4 158 [] (ky n) := ⟨(zb9 H).mg,(zjb n (gok H) (zfv H n) (zb9 H)).le (by decide)⟩
theorem zcu {C : Cx} (H : Hd C) (n : Nat) : C.mg "heappushpop" = some (.ref 165)∧FnOk C 4 165 [] (jc n) := ⟨(xw H).mg,(zcy n (gok H) (zfv H n) (xw H)).le (by decide)⟩
theorem zil {C : Cx} (H : Hd C) (n : Nat) : C.mg "_truth" = some (.ref 105)∧FnOk C 1 105 [] (ym n) := ⟨(zf8 H).mg,truth_ok n (gok H) (zf8 H)⟩
theorem ok_b2a {C : Cx} (H : Hd C) (n : Nat) : C.mg "b2a_base64" = some (.ref 128)∧FnOk C 2 128 ["newline"] (k9 n) := by
  obtain ⟨kV,F⟩ := zcz H
  exact ⟨F.mg,zfb n (gok H) ⟨(zdu H).mg,zll n (gok H) (zdu H)⟩ (zil H n) F⟩
theorem ok_a2b {C : Cx} (H : Hd C) (n : Nat) : C.mg "a2b_base64" = some (.ref 120)∧FnOk C 2 120 ["strict_mode"] (va n) := by
  obtain ⟨kV,F⟩ := zc0 H
  exact ⟨F.mg,zff n (gok H) ⟨(xb H).mg,zcp n (gok H) (xb H)⟩ (zil H n) ⟨(y9 H).mg,zgk n (gok H) (y9 H)⟩ F⟩
theorem zfw {C : Cx} (H : Hd C) (n : Nat) : C.mg "b64encode" = some (.ref 136)∧FnOk C 5 136 [] (kl n) := by
  obtain ⟨dV,h,F⟩ := zey H
  exact ⟨F.mg,(zgi n (gok H) (ok_b2a H n) F h).le (by decide)⟩
theorem zfx {C : Cx} (H : Hd C) (n : Nat) : C.mg "b64decode" = some (.ref 144)∧FnOk C 4 144 [] (j0 n) := by
  obtain ⟨dV,h,F⟩ := zez H
  exact ⟨F.mg,(zgj n (gok H) ⟨(jx H).mg,vz (d := 1) n (gok H) (jx H)⟩ (ok_a2b H n) F h).le (by decide)⟩
theorem y2 {C : Cx} (H : Hd C) (n : Nat) {d : Nat} : C.mg "_law_octets" = some (.ref 184)∧FnOk C (d + 1) 184 [] (q7 n) := ⟨(yi H).mg,zeq n (gok H) (yi H)⟩
theorem zhe {C : Cx} (H : Hd C) (n : Nat) (hP : (0,196) ∈ C.pin) (bm : BmAt C) (hcode : CodeHd C.H0 200 196) : C.mg "_law_plan" = some (.ref 201)∧FnOk C 5 201 [] (kh n 59 42) := by
  obtain ⟨doc,pm,an,ct,F⟩ := zhw H
  exact ⟨zhi H,zho (d := 3) n (gok H) (lex H).1 (lex H).2 (zhh H) hP bm hcode (fun ps => zfx (H.repin ps) n) (fun ps => y2 (H.repin ps) n) (fun ps => zhf (H.repin ps) n) (fun ps => zi8 (H.repin ps) n) (fun ps => zcu (H.repin ps) n)
    (fun ps => init_ok n (gok (H.repin ps)) (lex (H.repin ps)).1) (fun ps => zf6 n (gok (H.repin ps)) (lex (H.repin ps)).1 (zft (d := 0) n (gok (H.repin ps)) (lex (H.repin ps)).1)) (fun ps => zee n (gok (H.repin ps)) (lex (H.repin ps)).1) F⟩
theorem law_go {C : Cx} (H : Hd C) (n : Nat) (hP : (0,196) ∈ C.pin) (bm : BmAt C) (hcode : CodeHd C.H0 200 196) {A : Around} {L fa : Addr} {cd : Value} {sa : Addr} {vs : List Value} {ns : List Int} (hl : C.H0.IsList sa vs.toArray) (hi : IntsAre vs ns) (hz : ns.length≤63)
    (hA : OkA 5 A) (K : FmOk ⟨envOfC "law" (dpOf "law").scope L fa cd,wo L,[L + 1,L + 2,L + 3,L + 4]⟩) :
    Snd C A ⟨envOfC "law" (dpOf "law").scope L fa cd,wo L,[L + 1,L + 2,L + 3,L + 4]⟩ FR (execs (dpOf "law").body (envOfC "law" (dpOf "law").scope L fa cd)) (zk4 n (kh n 59 42) sa ns) :=
  law_snd (d := 4) n (gok H) _ hl hi hz ⟨(xu H).mg,zcw n (gok H) (xu H)⟩ (zfw H n) (y2 H n) ⟨(xv H).mg,zcx n (gok H) (xv H)⟩ (zhe H n hP bm hcode)
    ⟨(kc H).mg,xp n (gok H) (kc H)⟩ ⟨(wa H).mg,zay n (gok H) (wa H)⟩ hA K
end Mine
end
section
set_option maxHeartbeats 4000000
namespace Mine
open PySem PyProof.Rows PySem.W
theorem law_wp {C : Cx} (H : Hd C) (hpin : C.pin = [(0,196)]) (bm : BmAt C) (hcode : CodeHd C.H0 200 196) {A : Around} (hA : OkA 5 A) {L fa sa : Addr} {cd : Value} {vs : List Value} {ns : List Int} (hl : C.H0.IsList sa vs.toArray) (hi : IntsAre vs ns) (hz : ns.length≤63)
    {s : Shared} {m : Str→Option Value} (keep : ∀ b o,C.H0.get? b = some o→s.heap.get? b = some o) (hns : s.heap.Ns L m) (hm : m "script" = some (.ref sa)) (hL0 : C.H0.objs.size≤L) (c1 : ∃ w,s.heap.IsCell (L + 1) w) (c2 : ∃ w,s.heap.IsCell (L + 2) w) (c3 : ∃ w,s.heap.IsCell (L + 3) w) (c4 : ∃ w,s.heap.IsCell (L + 4) w)
    (hP : s.heap.get? 196 = some (tabObj #[])) (hP0 : C.H0.get? 196 = none) (hPL : 196 < L) {n : Nat} {st' : St} {ls : List Nat} (hlaw : zk4 n (kh n 59 42) sa ns ⟨some (.ext sa) :: List.replicate 16 none,[.tab []]⟩ = some (.ret (.bool true),st')) (htab : st'.g[0]? = some (.tab ls)) :
    wpAny C.M A (execs (dpOf "law").body (envOfC "law" (dpOf "law").scope L fa cd)) (fun f s' => f = .ret (.bool true)∧(∀ b o,C.H0.get? b = some o→s'.heap.get? b = some o)∧s'.os = s.os∧s'.gens = s.gens∧∃ ps,TriplesOk ps.toList∧s'.heap.get? 196 = some (tabObj ps)) NoE s := by
  have K : FmOk ⟨envOfC "law" (dpOf "law").scope L fa cd,wo L,[L + 1,L + 2,L + 3,L + 4]⟩ := by
    refine ⟨rfl,rfl,rfl,show (["script", "numbers", "altchars", "works", "written", "row", "text", "k", "places", "last", "told", "hour", "x", "card", "plan", "heard", "there"] : List Str).Nodup by decide,?_,?_⟩
    · show ([L + 1,L + 3,L + 4,L + 2] : List Nat).Nodup
      simp
    · intro a ha
      simp only [List.mem_cons,List.not_mem_nil,or_false] at ha
      rcases ha with rfl | rfl | rfl | rfl
      · exact ⟨"works",List.mem_of_getElem? (i := 3) rfl⟩
      · exact ⟨"plan",List.mem_of_getElem? (i := 14) rfl⟩
      · exact ⟨"last",List.mem_of_getElem? (i := 9) rfl⟩
      · exact ⟨"hour",List.mem_of_getElem? (i := 11) rfl⟩
  have fr : ∀ k,C.H0.get? (L + k) = none := fun k => Heap.get?_none_of_le (o6 hL0)
  have cellOf : ∀ x c,(x,some c) ∈ wo L→c = L + 1∨c = L + 2∨c = L + 3∨c = L + 4 := by
    intro x c h
    have h : c ∈ [L + 1,L + 3,L + 4,L + 2] := (List.mem_filterMap (f := fun p : Str × Option Addr => p.2)).mpr ⟨_,h,rfl⟩
    simp only [List.mem_cons,List.not_mem_nil,or_false] at h
    rcases h with h | h | h | h
    · exact .inl h
    · exact .inr (.inr (.inl h))
    · exact .inr (.inr (.inr h))
    · exact .inr (.inl h)
  have R : Rel C ⟨envOfC "law" (dpOf "law").scope L fa cd,wo L,[L + 1,L + 2,L + 3,L + 4]⟩ [196] ⟨some (.ext sa) :: List.replicate 16 none,[.tab []]⟩ s := by
    refine ⟨keep,⟨m,hns,fun i x v hx hv => ?_⟩,rfl,fr 0,fun x c hc => ?_,rfl,fun i a o ha ho => ?_,by simp,fun a ha => ?_,fun a ha => ⟨?_,fun x c hc => ?_⟩,fun p hp => ?_⟩
    · cases v with
      | some v =>
        have : i = 0∧v = .ext sa := by
          rcases i with _ | i
          · simp at hv; exact ⟨rfl,hv.symm⟩
          · simp only [List.getElem?_cons_succ] at hv
            have := List.mem_of_getElem? hv
            simp at this
        obtain ⟨rfl,rfl⟩ := this
        simp at hx; subst hx
        exact ⟨_,hm,.ext sa⟩
      | none =>
        obtain ⟨z,q⟩ := x
        cases q with
        | none => trivial
        | some c =>
          show ∃ w,s.heap.IsCell c w
          rcases cellOf z c (List.mem_of_getElem? hx) with rfl | rfl | rfl | rfl
          · exact c1
          · exact c2
          · exact c3
          · exact c4
    · rcases cellOf x c hc with rfl | rfl | rfl | rfl <;> exact fr _
    · rcases i with _ | i
      · simp at ha ho; subst ha ho
        exact ⟨_,hP,.tab ⟨trivial,fun pos _ => rfl⟩⟩
      · simp at ha
    · simp at ha; subst ha; exact hP0
    · simp at ha; subst ha; exact Nat.ne_of_lt hPL
    · simp at ha; subst ha
      rcases cellOf x c hc with rfl | rfl | rfl | rfl <;> exact Nat.ne_of_lt (Nat.lt_add_right _ hPL)
    · rw [hpin] at hp; simp at hp; subst hp; rfl
  have go := law_go H n (by rw [hpin]; simp) bm hcode hl hi hz hA K
  refine wpAny_mono (go _ _ _ hlaw _ _ R) (fun f s' hp => ?_) fun _ _ e => e
  obtain ⟨μ',h',tk,rfl,S',R',rf⟩ := hp
  cases rf with | ret r =>
  cases r
  refine ⟨rfl,R'.base,rfl,rfl,?_⟩
  have hp0 := R'.pins (0,196) (by rw [hpin]; simp)
  obtain ⟨ob,e1,e2⟩ := R'.objs 0 196 _ hp0 htab
  cases e2 with | @tab _ ps hT => exact ⟨ps,hT.1,e1⟩
end Mine
end
section
set_option tactic.hygienic true
namespace Mine
noncomputable def skF (rk : Int) : Int→List (Int × Int)→Int
  | f,[] => f
  | f,(r,c) :: l => if r≤rk∨r < f then skF rk (max f r + c) l else skF rk f l
noncomputable def ffF (h : Int) : Int→List (Int × Int)→Int
  | f,[] => f
  | f,(r,c) :: l => if r≤h then ffF h (max f r + c) l else ffF h f l
noncomputable abbrev Rising (l : List (Int × Int)) : Prop := l.Pairwise fun x y => x.1≤y.1
theorem zd7 {rk : Int} : ∀ {l : List (Int × Int)} {f : Int},(∀ e ∈ l,rk < e.1∧f≤e.1)→skF rk f l = f
  | [],_,_ => rfl
  | (r,c) :: l,f,h => by
    have h1 := h (r,c) (List.mem_cons_self ..)
    simp only at h1
    unfold skF
    rw [if_neg (by lia)]
    exact zd7 fun e he => h e (List.mem_cons_of_mem _ he)
theorem wu {h : Int} : ∀ {l : List (Int × Int)} {f : Int},(∀ e ∈ l,h < e.1)→ffF h f l = f
  | [],_,_ => rfl
  | (r,c) :: l,f,H => by
    have h1 := H (r,c) (List.mem_cons_self ..)
    simp only at h1
    unfold ffF
    rw [if_neg (by lia)]
    exact wu fun e he => H e (List.mem_cons_of_mem _ he)
theorem zid {rk : Int} : ∀ {l : List (Int × Int)} {f : Int},(∀ e ∈ l,0≤e.2)→f≤skF rk f l
  | [],_,_ => Int.le_refl _
  | (r,c) :: l,f,h => by
    have h1 := h (r,c) (List.mem_cons_self ..)
    simp only at h1
    unfold skF
    split
    · have := zid (rk := rk) (l := l) (f := max f r + c) fun e he => h e (List.mem_cons_of_mem _ he)
      lia
    · exact zid fun e he => h e (List.mem_cons_of_mem _ he)
theorem Rising.tail_ge {r c : Int} {l : List (Int × Int)} (h : Rising ((r,c) :: l)) : ∀ e ∈ l,r≤e.1 := (List.pairwise_cons.mp h).1
theorem skF_ff {rk : Int} : ∀ {l : List (Int × Int)} {f : Int},Rising l→(∀ e ∈ l,0≤e.2)→rk + 1≤skF rk f l→ffF (skF rk f l - 1) f l = skF rk f l
  | [],_,_,_,_ => rfl
  | (r,c) :: l,f,hs,h0,h => by
    have hc := h0 (r,c) (List.mem_cons_self ..)
    simp only at hc
    have h0' : ∀ e ∈ l,0≤e.2 := fun e he => h0 e (List.mem_cons_of_mem _ he)
    have hs' := (List.pairwise_cons.mp hs).2
    unfold skF at h ⊢
    split
    · rename_i hr
      rw [if_pos hr] at h
      have hge := zid (rk := rk) (l := l) (f := max f r + c) h0'
      unfold ffF
      rw [if_pos (by lia)]
      exact skF_ff hs' h0' h
    · rename_i hr
      rw [if_neg hr] at h
      have : skF rk f l = f := zd7 fun e he => by have := hs.tail_ge e he; lia
      rw [this] at h ⊢
      refine wu fun e he => ?_
      rcases List.mem_cons.mp he with rfl | he
      · simp only; lia
      · have := hs.tail_ge e he; lia
theorem zis {rk h : Int} (hk : rk≤h) : ∀ {l : List (Int × Int)} {f : Int},Rising l→(∀ e ∈ l,0≤e.2)→h + 1 < skF rk f l→h + 2≤ffF h f l
  | [],f,_,_,H => by unfold skF at H; unfold ffF; lia
  | (r,c) :: l,f,hs,h0,H => by
    have h0' : ∀ e ∈ l,0≤e.2 := fun e he => h0 e (List.mem_cons_of_mem _ he)
    have hs' := (List.pairwise_cons.mp hs).2
    unfold skF at H
    unfold ffF
    split at H
    · rename_i hr
      by_cases q : r≤h
      · rw [if_pos q]; exact zis hk hs' h0' H
      · rw [if_neg q,wu fun e he => by have := hs.tail_ge e he; lia]
        lia
    · rename_i hr
      have : skF rk f l = f := zd7 fun e he => by have := hs.tail_ge e he; lia
      rw [this] at H
      rw [if_neg (by lia),wu fun e he => by have := hs.tail_ge e he; lia]
      lia
noncomputable def zfn (h : Int) (l : List (Int × Int)) : Int := (l.map fun e => if e.1 = h then e.2 else 0).sum
theorem za6 {h : Int} : ∀ {l : List (Int × Int)} {f : Int},Rising l→(∀ e ∈ l,0≤e.2)→max 0 (ffF (h + 1) f l - (h + 1)) = max 0 (ffF h f l - (h + 1)) + zfn (h + 1) l
  | [],f,_,_ => by simp [ffF,zfn]
  | (r,c) :: l,f,hs,h0 => by
    have hc := h0 (r,c) (List.mem_cons_self ..)
    simp only at hc
    have h0' : ∀ e ∈ l,0≤e.2 := fun e he => h0 e (List.mem_cons_of_mem _ he)
    have hs' := (List.pairwise_cons.mp hs).2
    have hsum : zfn (h + 1) ((r,c) :: l) = (if r = h + 1 then c else 0) + zfn (h + 1) l := by simp [zfn]
    rw [hsum]
    unfold ffF
    by_cases q : r≤h
    · rw [if_pos (by lia),if_pos q,if_neg (by lia),za6 hs' h0']; lia
    · by_cases q' : r = h + 1
      · rw [if_pos (by lia),if_neg q,if_pos q',za6 hs' h0',wu (h := h) (f := f) fun e he => by have := hs.tail_ge e he; lia,wu (h := h) (f := max f r + c) fun e he => by have := hs.tail_ge e he; lia]
        lia
      · rw [if_neg (by lia),if_neg q,if_neg q',za6 hs' h0']; lia
theorem zbk {rk : Int} : ∀ {l : List (Int × Int)} {f : Int},Rising l→(∀ e ∈ l,0≤e.2) →
    skF rk f l≤f + (l.map (·.2)).sum∨∃ e ∈ l,skF rk f l≤e.1 + (l.map fun x => if e.1≤x.1 then x.2 else 0).sum
  | [],f,_,_ => by simp [skF]
  | (r,c) :: l,f,hs,h0 => by
    have hc := h0 (r,c) (List.mem_cons_self ..)
    simp only at hc
    have h0' : ∀ e ∈ l,0≤e.2 := fun e he => h0 e (List.mem_cons_of_mem _ he)
    have hs' := (List.pairwise_cons.mp hs).2
    have hall : ((r,c) :: l).map (fun x => if r≤x.1 then x.2 else 0) = ((r,c) :: l).map (·.2) := by
      refine List.map_congr_left fun x hx => ?_
      rcases List.mem_cons.mp hx with rfl | hx
      · simp
      · rw [if_pos (hs.tail_ge x hx)]
    have hcons : ∀ e : Int × Int,(l.map fun x => if e.1≤x.1 then x.2 else 0).sum≤(((r,c) :: l).map fun x => if e.1≤x.1 then x.2 else 0).sum := fun e => by
      simp only [List.map_cons,List.sum_cons]; split <;> lia
    unfold skF
    split
    · rcases zbk (rk := rk) (f := max f r + c) hs' h0' with q | ⟨e,he,q⟩
      · by_cases hm : r≤f
        · left; simp only [List.map_cons,List.sum_cons]; lia
        · right
          refine ⟨(r,c),List.mem_cons_self ..,?_⟩
          show _≤r + (((r,c) :: l).map fun x => if r≤x.1 then x.2 else 0).sum
          rw [hall]; simp only [List.map_cons,List.sum_cons]; lia
      · exact .inr ⟨e,List.mem_cons_of_mem _ he,Int.le_trans q (Int.add_le_add_left (hcons e) _)⟩
    · rcases zbk (rk := rk) (f := f) hs' h0' with q | ⟨e,he,q⟩
      · left; simp only [List.map_cons,List.sum_cons]; lia
      · exact .inr ⟨e,List.mem_cons_of_mem _ he,Int.le_trans q (Int.add_le_add_left (hcons e) _)⟩
end Mine
end
section
set_option tactic.hygienic true
namespace Mine
structure Wk where
  N : Nat
  row : Nat→Int
  due : Nat→Int
  hrs : Nat→Int
structure WkOk (W : Wk) : Prop where
  one : ∀ j,j < W.N→1≤W.row j
  rise : ∀ i j,i≤j→j < W.N→W.row i≤W.row j
  hrs : ∀ j,j < W.N→1≤W.hrs j
noncomputable abbrev kle (W : Wk) (j k : Nat) : Prop := W.due j < W.due k∨(W.due j = W.due k∧j≤k)
theorem kle.trans {W : Wk} {i j k : Nat} (h1 : kle W i j) (h2 : kle W j k) : kle W i k := by unfold kle at *; exact o474 h1 h2
theorem kle.refl (W : Wk) (k : Nat) : kle W k k := by unfold kle; exact o471
theorem kle.anti {W : Wk} {i j : Nat} (h1 : kle W i j) (h2 : kle W j i) : i = j := by unfold kle at *; exact o473 h1 h2
theorem kle.total (W : Wk) (i j : Nat) : kle W i j∨kle W j i := by unfold kle; exact o472
structure Sim (W : Wk) (rem : Nat→Nat→Int) (pk : Nat→Option Nat) : Prop where
  zero : ∀ j,rem 0 j = W.hrs j
  step : ∀ h j,rem (h + 1) j = if pk h = some j then rem h j - 1 else rem h j
  pick : ∀ h k,pk h = some k→k < W.N∧W.row k≤h∧0 < rem h k∧∀ j,j < W.N→W.row j≤h→0 < rem h j→kle W k j
  idle : ∀ h,pk h = none→∀ j,j < W.N→W.row j≤h→¬ 0 < rem h j
theorem zbi {f : Nat→Int} {p : Nat} : ∀ {l : List Nat},l.Nodup→(l.map fun j => if p = j then f j - 1 else f j).sum = (l.map f).sum - (if p ∈ l then 1 else 0)
  | [],_ => by simp
  | j :: l,h => by
    obtain ⟨h1,h2⟩ := List.nodup_cons.mp h
    have ih := zbi (f := f) (p := p) h2
    simp only [List.map_cons,List.sum_cons,ih]
    by_cases q : p = j
    · subst q; simp [h1]; exact o476
    · have : (p ∈ j :: l)↔p ∈ l := by simp [q]
      simp only [this,if_neg q]; exact o484
theorem yn {α : Type} {f : α→Int} : ∀ {l : List α},(∀ j ∈ l,0≤f j)→0≤(l.map f).sum
  | [],_ => by simp
  | j :: l,h => by
    have h1 := h j (List.mem_cons_self ..)
    have h2 := yn (l := l) fun i hi => h i (List.mem_cons_of_mem _ hi)
    simp only [List.map_cons,List.sum_cons]; exact o475 h1 h2
theorem v4 {α : Type} {f : α→Int} {k : α} : ∀ {l : List α},(∀ j ∈ l,0≤f j)→k ∈ l→f k≤(l.map f).sum
  | [],_,hk => by injection hk
  | j :: l,h,hk => by
    have h1 := h j (List.mem_cons_self ..)
    have h0 : ∀ i ∈ l,0≤f i := fun i hi => h i (List.mem_cons_of_mem _ hi)
    simp only [List.map_cons,List.sum_cons]
    rcases List.mem_cons.mp hk with rfl | hk
    · have := yn h0; exact o477 this
    · have := v4 h0 hk; exact o483 h1 this
theorem zdc {f : Nat→Int} {k i : Nat} (hne : k≠i) : ∀ {l : List Nat},(∀ j ∈ l,0≤f j)→k ∈ l→i ∈ l→f k + f i≤(l.map f).sum
  | [],_,hk,_ => by injection hk
  | j :: l,h,hk,hi => by
    have h1 := h j (List.mem_cons_self ..)
    have h0 : ∀ i ∈ l,0≤f i := fun i hi => h i (List.mem_cons_of_mem _ hi)
    simp only [List.map_cons,List.sum_cons]
    rcases List.mem_cons.mp hk with e | hk'
    · rcases List.mem_cons.mp hi with e' | hi'
      · exact absurd (e.trans e'.symm) hne
      · have := v4 h0 hi'; rw [e]; exact o482 this
    · rcases List.mem_cons.mp hi with e' | hi'
      · have := v4 h0 hk'; rw [e']; exact o486 this
      · have := zdc hne h0 hk' hi'; exact o488 h1 this
theorem zbj {f : Nat→Int} : ∀ {l : List Nat},0 < (l.map f).sum→∃ j ∈ l,0 < f j
  | [],h => by simp at h
  | j :: l,h => by
    simp only [List.map_cons,List.sum_cons] at h
    by_cases q : 0 < f j
    · exact ⟨j,List.mem_cons_self ..,q⟩
    · obtain ⟨i,hi,e⟩ := zbj (l := l) (f := f) (o481 h q)
      exact ⟨i,List.mem_cons_of_mem _ hi,e⟩
namespace Sim
variable {W : Wk} {rem : Nat→Nat→Int} {pk : Nat→Option Nat}
theorem nonneg (S : Sim W rem pk) (O : WkOk W) : ∀ (h j : Nat),j < W.N→0≤rem h j
  | 0,j,hj => by rw [S.zero]; have := O.hrs j hj; exact o479 this
  | h + 1,j,hj => by
    rw [S.step]
    have ih := S.nonneg O h j hj
    split
    · rename_i q
      have := (S.pick h j q).2.2.1
      exact o485 this
    · exact ih
theorem le_hrs (S : Sim W rem pk) : ∀ (h j : Nat),rem h j≤W.hrs j
  | 0,j => by rw [S.zero]; exact o480
  | h + 1,j => by
    rw [S.step]
    have ih := S.le_hrs h j
    split <;> lia
theorem anti (S : Sim W rem pk) (h j : Nat) : rem (h + 1) j≤rem h j := by rw [S.step]; split <;> lia
theorem anti' (S : Sim W rem pk) {h h' : Nat} (hh : h≤h') (j : Nat) : rem h' j≤rem h j := by
  induction h' with
  | zero => have : h = 0 := by exact o288 hh
            subst this; exact Int.le_refl _
  | succ n ih =>
    by_cases q : h = n + 1
    · subst q; exact Int.le_refl _
    · have := ih (o289 hh q); have := S.anti n j; exact o492 (by assumption) this
theorem before (S : Sim W rem pk) : ∀ (h j : Nat),(h : Int)≤W.row j→rem h j = W.hrs j
  | 0,j,_ => S.zero j
  | h + 1,j,hr => by
    rw [S.step,if_neg,S.before h j (o489 hr)]
    intro q
    have := (S.pick h j q).2.1
    exact o491 hr this
noncomputable def bl (W : Wk) (k : Nat) : List Nat := (List.range W.N).filter fun j => kle W j k
noncomputable def rl (W : Wk) (k : Nat) : List (Int × Int) := (bl W k).map fun j => (W.row j,W.hrs j)
theorem mem_bl {W : Wk} {k j : Nat} : j ∈ bl W k↔j < W.N∧kle W j k := by unfold bl; simp
theorem zix (W : Wk) (k : Nat) : (bl W k).Nodup := List.Pairwise.filter _ List.nodup_range
theorem xk (O : WkOk W) (k : Nat) : Rising (rl W k) := by
  unfold rl Rising
  rw [List.pairwise_map]
  have h1 : (bl W k).Pairwise (· < ·) := List.Pairwise.filter _ List.pairwise_lt_range
  refine List.Pairwise.imp_of_mem (fun ha hb hab => ?_) h1
  exact O.rise _ _ (Nat.le_of_lt hab) (mem_bl.mp hb).1
theorem xl (O : WkOk W) (k : Nat) : ∀ e ∈ rl W k,0≤e.2 := by
  intro e he
  obtain ⟨j,hj,rfl⟩ := List.mem_map.mp he
  have := O.hrs j (mem_bl.mp hj).1
  simp only; exact o479 this
noncomputable def bs (W : Wk) (rem : Nat→Nat→Int) (h : Nat) (l : List Nat) : Int := (l.map fun j => if W.row j≤h then rem h j else 0).sum
noncomputable def lastOf (W : Wk) (k : Nat) : Int := skF (W.row k) 0 (rl W k) - 1
theorem bs_nonneg (S : Sim W rem pk) (O : WkOk W) (h k : Nat) : ∀ j ∈ bl W k,0≤(if W.row j≤h then rem h j else 0) := fun j hj => by
  split
  · exact S.nonneg O h j (mem_bl.mp hj).1
  · exact Int.le_refl _
theorem served (S : Sim W rem pk) (O : WkOk W) {h k : Nat} (hk : 0 < bs W rem h (bl W k)) : ∃ p,pk h = some p∧p ∈ bl W k := by
  obtain ⟨j,hj,e⟩ := zbj hk
  obtain ⟨hN,hjk⟩ := mem_bl.mp hj
  split at e
  · rename_i hr
    cases q : pk h with
    | none => exact absurd e (S.idle h q j hN hr)
    | some p =>
      obtain ⟨a,b,c,d⟩ := S.pick h p q
      exact ⟨p,rfl,mem_bl.mpr ⟨a,(d j hN hr e).trans hjk⟩⟩
  · lia
theorem bs_step (S : Sim W rem pk) (O : WkOk W) (h k : Nat) : bs W rem (h + 1) (bl W k) = max 0 (bs W rem h (bl W k) - 1) + zfn (h + 1) (rl W k) := by
  have e1 : bs W rem (h + 1) (bl W k) = ((bl W k).map fun j => if W.row j≤h then rem (h + 1) j else 0).sum + zfn (h + 1) (rl W k) := by
    unfold bs zfn rl
    rw [List.map_map]
    have : ∀ l : List Nat,(l.map fun j => if W.row j≤((h + 1 : Nat) : Int) then rem (h + 1) j else 0).sum = (l.map fun j => if W.row j≤h then rem (h + 1) j else 0).sum + (l.map ((fun e : Int × Int => if e.1 = (h : Int) + 1 then e.2 else 0) ∘ fun j => (W.row j,W.hrs j))).sum := by
      intro l
      induction l with
      | nil => simp
      | cons j l ih =>
        simp only [List.map_cons,List.sum_cons,ih,Function.comp]
        by_cases q : W.row j≤h
        · rw [if_pos (o496 q),if_pos q,if_neg (o498 q)]; exact o500
        · by_cases q' : W.row j = (h : Int) + 1
          · rw [if_pos (o501 q'),if_neg q,if_pos q',S.before (h + 1) j (o503 q')]; exact o506
          · rw [if_neg (o510 q q'),if_neg q,if_neg q']; exact o512
    exact this _
  rw [e1]
  congr 1
  have hnn : 0≤bs W rem h (bl W k) := yn (S.bs_nonneg O h k)
  cases q : pk h with
  | none =>
    have hz : ¬ 0 < bs W rem h (bl W k) := fun z => by obtain ⟨p,e,_⟩ := S.served O z; rw [q] at e; injection e
    have : ((bl W k).map fun j => if W.row j≤h then rem (h + 1) j else 0) = (bl W k).map fun j => if W.row j≤h then rem h j else 0 :=
      List.map_congr_left fun j _ => by rw [S.step,q]; simp
    rw [this]
    show bs W rem h (bl W k) = _
    exact o520 hnn hz
  | some p =>
    obtain ⟨a,b,c,d⟩ := S.pick h p q
    have : ((bl W k).map fun j => if W.row j≤h then rem (h + 1) j else 0) = (bl W k).map fun j => if p = j then (if W.row j≤h then rem h j else 0) - 1 else (if W.row j≤h then rem h j else 0) := by
      refine List.map_congr_left fun j _ => ?_
      rw [S.step,q]
      by_cases z : p = j
      · subst z; simp [b]
      · simp [z]
    rw [this,zbi (zix W k)]
    show bs W rem h (bl W k) - _ = _
    by_cases hp : p ∈ bl W k
    · rw [if_pos hp]
      have := v4 (S.bs_nonneg O h k) hp
      rw [if_pos b] at this
      unfold bs at *
      exact o524 hnn c this
    · rw [if_neg hp]
      have hz : ¬ 0 < bs W rem h (bl W k) := fun z => by
        obtain ⟨p',e,hp'⟩ := S.served O z
        rw [q] at e; cases e; exact hp hp'
      exact o528 hnn hz
theorem bs_eq (S : Sim W rem pk) (O : WkOk W) (k : Nat) : ∀ h : Nat,bs W rem h (bl W k) = max 0 (ffF h 0 (rl W k) - h)
  | 0 => by
    have h1 : ∀ e ∈ rl W k,(0 : Int) < e.1 := fun e he => by
      obtain ⟨j,hj,rfl⟩ := List.mem_map.mp he
      have := O.one j (mem_bl.mp hj).1
      simp only; exact o249 this
    have e1 : ffF ((0 : Nat) : Int) 0 (rl W k) = 0 := wu h1
    have e2 : bs W rem 0 (bl W k) = 0 := by
      unfold bs
      have : (bl W k).map (fun j => if W.row j≤((0 : Nat) : Int) then rem 0 j else 0) = (bl W k).map fun _ => 0 := List.map_congr_left fun j hj => by
        have := O.one j (mem_bl.mp hj).1
        rw [if_neg (by lia)]
      rw [this]
      generalize bl W k = l
      induction l with
      | nil => rfl
      | cons a l ih => simpa using ih
    rw [e1,e2]; simp
  | h + 1 => by
    rw [S.bs_step O h k,S.bs_eq O k h]
    have := za6 (h := h) (f := 0) (xk O k) (xl O k)
    have e : ((h + 1 : Nat) : Int) = (h : Int) + 1 := by exact o499
    rw [e,this]
    exact o514
theorem last_ge (O : WkOk W) {k : Nat} (hk : k < W.N) : W.row k≤lastOf W k := by
  unfold lastOf
  have hmem : (W.row k,W.hrs k) ∈ rl W k := List.mem_map.mpr ⟨k,mem_bl.mpr ⟨hk,kle.refl W k⟩,rfl⟩
  have h1 := O.hrs k hk
  have key : ∀ (l : List (Int × Int)) (f : Int),(∀ e ∈ l,0≤e.2)→(W.row k,W.hrs k) ∈ l→W.row k + W.hrs k≤skF (W.row k) f l := by
    intro l
    induction l with
    | nil => intro f _ h; injection h
    | cons x l ih =>
      intro f h0 h
      obtain ⟨r,c⟩ := x
      unfold skF
      have h0' : ∀ e ∈ l,0≤e.2 := fun e he => h0 e (List.mem_cons_of_mem _ he)
      rcases List.mem_cons.mp h with e | h
      · injection e
        rw [if_pos (.inl (Int.le_refl _))]
        have := zid (rk := W.row k) (l := l) (f := max f (W.row k) + W.hrs k) h0'
        exact o497 this
      · split <;> exact ih _ h0' h
  have := key _ 0 (xl O k) hmem
  exact o502 h1 this
theorem busy (S : Sim W rem pk) (O : WkOk W) {k : Nat} (hk : k < W.N) : ∀ n : Nat,∀ h : Nat,(h : Int) = W.row k + n→(h : Int)≤lastOf W k→0 < rem h k
  | 0,h,e,_ => by rw [S.before h k (by lia)]; have := O.hrs k hk; exact o249 this
  | n + 1,0,e,_ => by have := O.one k hk; lia
  | n + 1,h + 1,e,hl => by
    have ih := S.busy O hk n h (o509 e) (o513 e hl)
    have hff := zis (rk := W.row k) (h := h) (o516 e) (f := 0) (xk O k) (xl O k) (by unfold lastOf at hl; exact o518 e hl)
    have hb := S.bs_eq O k h
    rw [S.step]
    split
    · rename_i q
      obtain ⟨a,b,c,d⟩ := S.pick h k q
      -- all that counts is k's own
      have hz : ∀ j ∈ bl W k,j≠k→(if W.row j≤h then rem h j else 0) = 0 := by
        intro j hj hne
        obtain ⟨hN,hjk⟩ := mem_bl.mp hj
        split
        · rename_i hr
          have := S.nonneg O h j hN
          by_cases z : 0 < rem h j
          · exact absurd (kle.anti hjk (d j hN hr z)) hne
          · exact o521 this z
        · rfl
      have hsum : bs W rem h (bl W k)≤rem h k := by
        unfold bs
        have key : ∀ l : List Nat,l.Nodup→(∀ j ∈ l,j≠k→(if W.row j≤h then rem h j else 0) = 0)→(l.map fun j => if W.row j≤h then rem h j else 0).sum≤if k ∈ l then rem h k else 0 := by
          intro l
          induction l with
          | nil => intro _ _; simp
          | cons j l ihl =>
            intro hnd hz
            obtain ⟨h1,h2⟩ := List.nodup_cons.mp hnd
            have ih' := ihl h2 fun i hi => hz i (List.mem_cons_of_mem _ hi)
            simp only [List.map_cons,List.sum_cons]
            by_cases z : j = k
            · subst z
              rw [if_neg h1] at ih'
              rw [if_pos (List.mem_cons_self ..),if_pos b]; exact o522 ih'
            · rw [hz j (List.mem_cons_self ..) z]
              have : (k ∈ j :: l)↔k ∈ l := by simp [Ne.symm z]
              simp only [this]; exact o525 ih'
        have := key _ (zix W k) hz
        rw [if_pos (mem_bl.mpr ⟨hk,kle.refl W k⟩)] at this
        exact this
      exact o529 e ih hff hb hsum
    · exact ih
theorem done (S : Sim W rem pk) (O : WkOk W) {k : Nat} (hk : k < W.N) {h : Nat} (hl : lastOf W k < h) : rem h k = 0 := by
  have hrk := last_ge O hk
  have h1 := O.one k hk
  obtain ⟨t,ht⟩ : ∃ t : Nat,(t : Int) = lastOf W k := ⟨(lastOf W k).toNat,by exact o494 hrk h1⟩
  have key : rem (t + 1) k = 0 := by
    have hp := S.busy O hk (t - (W.row k).toNat) t (o505 hrk h1 ht) (o507 ht)
    have hb := S.bs_eq O k t
    have hff := skF_ff (rk := W.row k) (f := 0) (xk O k) (xl O k) (by unfold lastOf at hrk; exact o508 hrk)
    have e : skF (W.row k) 0 (rl W k) - 1 = (t : Int) := by unfold lastOf at ht; exact o511 ht
    rw [e] at hff
    have hb1 : bs W rem t (bl W k)≤1 := by exact o515 hb hff e
    have hkb : k ∈ bl W k := mem_bl.mpr ⟨hk,kle.refl W k⟩
    have hge := v4 (S.bs_nonneg O t k) hkb
    rw [if_pos (o517 hrk ht e)] at hge
    have hpos : 0 < bs W rem t (bl W k) := by unfold bs; exact o519 hp hge
    obtain ⟨p,hpk,hpb⟩ := S.served O hpos
    have hpe : p = k := by
      by_cases z : k = p
      · exact z.symm
      · have h2 := zdc z (S.bs_nonneg O t k) hkb hpb
        obtain ⟨_,b,c,_⟩ := S.pick t p hpk
        rw [if_pos (o517 hrk ht e),if_pos b] at h2
        unfold bs at hb1
        exact o523 hp hb1 hge h2 c
    subst hpe
    rw [S.step,if_pos hpk]
    unfold bs at hb1
    exact o526 hp hb1 hge
  have h2 := S.anti' (h := t + 1) (h' := h) (o527 hl ht) k
  have h3 := S.nonneg O h k hk
  exact o530 key h2 h3
theorem live_iff (S : Sim W rem pk) (O : WkOk W) {k : Nat} (hk : k < W.N) {h : Nat} (hr : W.row k≤h) : 0 < rem h k↔(h : Int)≤lastOf W k := by
  constructor
  · intro z
    by_cases q : (h : Int)≤lastOf W k
    · exact q
    · have := S.done O hk (h := h) (o493 q); exact o495 z this
  · intro z
    exact S.busy O hk (h - (W.row k).toNat) h (by have := O.one k hk; exact o504 hr this) z
end Sim
end Mine
end
section
namespace Mine
namespace Sim
variable {W : Wk} {rem : Nat→Nat→Int} {pk : Nat→Option Nat}
noncomputable abbrev inside (W : Wk) (i k j : Nat) : Prop := W.row i≤W.row j∧W.due j≤W.due k
noncomputable def room (W : Wk) (i k : Nat) : Int := ((List.range W.N).map fun j => if inside W i k j then W.hrs j else 0).sum - (W.due k - W.row i + 1)
set_option tactic.hygienic true in
theorem yx {f g : Nat→Int} {p : Nat→Bool} : ∀ {l : List Nat},(∀ j ∈ l,0≤g j)→(∀ j ∈ l,p j = true→f j≤g j)→((l.filter p).map f).sum≤(l.map g).sum
  | [],_,_ => by simp
  | j :: l,h0,h => by
    have ih := yx (l := l) (fun i hi => h0 i (List.mem_cons_of_mem _ hi)) (fun i hi => h i (List.mem_cons_of_mem _ hi))
    have h1 := h0 j (List.mem_cons_self ..)
    rw [List.filter_cons]
    split
    · rename_i q
      have := h j (List.mem_cons_self ..) q
      simp only [List.map_cons,List.sum_cons]; exact o531 ih this
    · simp only [List.map_cons,List.sum_cons]; exact o532 ih h1
theorem horn_le (O : WkOk W) {k : Nat} (hk : k < W.N) : ∃ i,i < W.N∧inside W i k i∧lastOf W k - W.due k≤room W i k := by
  have reach := zbk (rk := W.row k) (f := 0) (xk O k) (xl O k)
  have hkm : k ∈ bl W k := mem_bl.mpr ⟨hk,kle.refl W k⟩
  have bound : ∀ i,i ∈ bl W k→((rl W k).map fun x => if W.row i≤x.1 then x.2 else 0).sum≤((List.range W.N).map fun j => if inside W i k j then W.hrs j else 0).sum := by
    intro i hi
    unfold rl bl
    rw [List.map_map]
    refine yx (fun j hj => ?_) (fun j hj hp => ?_)
    · split
      · have := O.hrs j (List.mem_range.mp hj); exact o479 this
      · exact Int.le_refl _
    · simp only [Function.comp]
      have hd : W.due j≤W.due k := by have := of_decide_eq_true hp; unfold kle at this; exact o535 this
      by_cases q : W.row i≤W.row j
      · rw [if_pos q,if_pos ⟨q,hd⟩]; exact Int.le_refl _
      · rw [if_neg q]; split
        · have := O.hrs j (List.mem_range.mp hj); lia
        · exact Int.le_refl _
  have hdue : ∀ i ∈ bl W k,W.due i≤W.due k := fun i hi => by have := (mem_bl.mp hi).2; unfold kle at this; exact o535 this
  rcases reach with q | ⟨e,he,q⟩
  · -- the first row
    obtain ⟨i,l,hl⟩ : ∃ i l,bl W k = i :: l := by
      cases h : bl W k with
      | nil => rw [h] at hkm; cases hkm
      | cons i l => exact ⟨i,l,rfl⟩
    have hi : i ∈ bl W k := by rw [hl]; exact List.mem_cons_self ..
    have hiN := (mem_bl.mp hi).1
    refine ⟨i,hiN,⟨Int.le_refl _,hdue i hi⟩,?_⟩
    have h1 := bound i hi
    have hr := xk O k
    have all : (rl W k).map (fun x => if W.row i≤x.1 then x.2 else 0) = (rl W k).map (·.2) := by
      refine List.map_congr_left fun x hx => ?_
      unfold rl at hx hr
      rw [hl] at hx hr
      rcases List.mem_cons.mp hx with rfl | hx
      · simp
      · rw [if_pos (hr.tail_ge x hx)]
    rw [all] at h1
    have h2 := O.one i hiN
    unfold room lastOf
    exact o553 q h1 h2
  · obtain ⟨i,hi,rfl⟩ := List.mem_map.mp he
    simp only at q
    have h1 := bound i hi
    refine ⟨i,(mem_bl.mp hi).1,⟨Int.le_refl _,hdue i hi⟩,?_⟩
    unfold room lastOf
    lia
theorem sum_step_le (S : Sim W rem pk) (h : Nat) (p : Nat→Bool) : ∀ l : List Nat,l.Nodup→(l.map fun j => if p j then rem h j else 0).sum - 1≤(l.map fun j => if p j then rem (h + 1) j else 0).sum := by
  intro l hnd
  cases q : pk h with
  | none =>
    have : (l.map fun j => if p j then rem (h + 1) j else 0) = l.map fun j => if p j then rem h j else 0 := List.map_congr_left fun j _ => by rw [S.step,q]; simp
    rw [this]; exact o478
  | some x =>
    have key : ∀ l : List Nat,l.Nodup→(l.map fun j => if p j then rem h j else 0).sum - (if x ∈ l then 1 else 0)≤(l.map fun j => if p j then rem (h + 1) j else 0).sum := by
      intro l
      induction l with
      | nil => intro _; simp
      | cons j l ih =>
        intro hnd
        obtain ⟨h1,h2⟩ := List.nodup_cons.mp hnd
        have ih := ih h2
        simp only [List.map_cons,List.sum_cons]
        rw [S.step,q]
        by_cases z : x = j
        · subst z
          rw [if_neg h1] at ih
          rw [if_pos (List.mem_cons_self ..),if_pos rfl]
          split <;> lia
        · have : (x ∈ j :: l)↔x ∈ l := by simp [z]
          have e : (if (some x : Option Nat) = some j then rem h j - 1 else rem h j) = rem h j := if_neg (by simpa using z)
          rw [e]
          simp only [this]; split <;> lia
    have := key l hnd
    split at this <;> lia
theorem horn_ge (S : Sim W rem pk) (O : WkOk W) {i k j₀ : Nat} (hi : i < W.N) (hj : j₀ < W.N) (hin : inside W i k j₀) : ∃ m,m < W.N∧room W i k≤lastOf W m - W.due m := by
  -- the last of those inside
  obtain ⟨m,hmN,hmin,hmax⟩ : ∃ m,m < W.N∧inside W i k m∧∀ j,j < W.N→inside W i k j→lastOf W j≤lastOf W m := by
    have key : ∀ n,n≤W.N→(∃ j,j < n∧inside W i k j)→∃ m,m < n∧inside W i k m∧∀ j,j < n→inside W i k j→lastOf W j≤lastOf W m := by
      intro n
      induction n with
      | zero => rintro _ ⟨j,h,_⟩; exact (o8 h).elim
      | succ n ih =>
        rintro hn ⟨j,hj,hjin⟩
        by_cases q : ∃ j,j < n∧inside W i k j
        · obtain ⟨m,a,b,c⟩ := ih (o533 hn q) q
          by_cases z : inside W i k n∧lastOf W m < lastOf W n
          · refine ⟨n,by exact o537 q,z.1,fun j' h1 h2 => ?_⟩
            by_cases e : j' = n
            · subst e; exact Int.le_refl _
            · have := c j' (o539 q h1 e) h2; exact o541 q z this
          · refine ⟨m,by exact o544 q a,b,fun j' h1 h2 => ?_⟩
            by_cases e : j' = n
            · subst e
              by_cases z' : lastOf W m < lastOf W j'
              · exact absurd ⟨h2,z'⟩ z
              · exact o545 q z'
            · exact c j' (o539 q h1 e) h2
        · have : j = n := by
            by_cases e : j = n
            · exact e
            · exact absurd ⟨j,by exact o250 hj e,hjin⟩ q
          subst this
          refine ⟨j,by exact o551,hjin,fun j' h1 h2 => ?_⟩
          by_cases e : j' = j
          · subst e; exact Int.le_refl _
          · exact absurd ⟨j',by exact o250 h1 e,h2⟩ q
    exact key W.N (Nat.le_refl _) ⟨j₀,hj,hin⟩
  refine ⟨m,hmN,?_⟩
  have hrow := O.one i hi
  have hlast := last_ge O hmN
  obtain ⟨r,hr⟩ : ∃ r : Nat,(r : Int) = W.row i := ⟨(W.row i).toNat,by exact o558 hrow⟩
  obtain ⟨t,ht⟩ : ∃ t : Nat,(t : Int) = lastOf W m := ⟨(lastOf W m).toNat,by lia⟩
  let p : Nat→Bool := fun j => decide (inside W i k j)
  have desc : ∀ n,((List.range W.N).map fun j => if p j then rem r j else 0).sum - n≤((List.range W.N).map fun j => if p j then rem (r + n) j else 0).sum := by
    intro n
    induction n with
    | zero => simp
    | succ n ih => have := S.sum_step_le (r + n) p _ (List.nodup_range (n := W.N)); rw [← Nat.add_assoc]; exact o559 ih this
  have hrt : r≤t := by have := hmin.1; lia
  have hd := desc (t + 1 - r)
  rw [show r + (t + 1 - r) = t + 1 by exact o560 hrt] at hd
  have e1 : ((List.range W.N).map fun j => if p j then rem r j else 0) = (List.range W.N).map fun j => if inside W i k j then W.hrs j else 0 := by
    refine List.map_congr_left fun j hj => ?_
    by_cases q : inside W i k j
    · rw [if_pos q,if_pos (decide_eq_true q),S.before r j (by have := q.1; lia)]
    · rw [if_neg q,if_neg (by simp only [p,decide_eq_true_eq]; exact q)]
  have e2 : ((List.range W.N).map fun j => if p j then rem (t + 1) j else 0).sum = 0 := by
    have : ((List.range W.N).map fun j => if p j then rem (t + 1) j else 0) = (List.range W.N).map fun _ => 0 := by
      refine List.map_congr_left fun j hj => ?_
      by_cases q : inside W i k j
      · rw [if_pos (decide_eq_true q)]
        have := hmax j (List.mem_range.mp hj) q
        exact S.done O (List.mem_range.mp hj) (o561 ht this)
      · rw [if_neg (by simp only [p,decide_eq_true_eq]; exact q)]
    rw [this]
    generalize List.range W.N = l
    induction l with
    | nil => rfl
    | cons a l ih => simpa using ih
  rw [e1,e2] at hd
  have hdm := hmin.2
  unfold room
  lia
noncomputable def pkI (pk : Nat→Option Nat) (h : Nat) : Int := match pk h with
  | some k => k
  | none => -1
noncomputable def planL (pk : Nat→Option Nat) (T : Nat) : List Int := (List.range T).map fun i => pkI pk (i + 1)
theorem planL_succ (pk : Nat→Option Nat) (T : Nat) : planL pk (T + 1) = planL pk T++[pkI pk (T + 1)] := by
  unfold planL; rw [List.range_succ,List.map_append]; rfl
theorem planL_len (pk : Nat→Option Nat) (T : Nat) : (planL pk T).length = T := by unfold planL; simp
theorem pkI_eq {h k : Nat} : pkI pk h = (k : Int)↔pk h = some k := by
  unfold pkI
  cases pk h with
  | none => simp
  | some x => simp; exact o534
theorem count_plan (S : Sim W rem pk) (k : Nat) : ∀ T,(((planL pk T).count (k : Int) : Nat) : Int) = rem 1 k - rem (T + 1) k
  | 0 => by simp [planL]
  | T + 1 => by
    rw [planL_succ,List.count_append,Int.natCast_add,S.count_plan k T,S.step (T + 1) k,List.count_singleton]
    by_cases q : pk (T + 1) = some k
    · rw [if_pos q,if_pos (by simpa using pkI_eq.mpr q)]; lia
    · rw [if_neg q,if_neg (by simp; intro e; exact q (pkI_eq.mp e))]; lia
theorem count_hrs (S : Sim W rem pk) (O : WkOk W) {k T : Nat} (hk : k < W.N) (hT : lastOf W k≤T) : (((planL pk T).count (k : Int) : Nat) : Int) = W.hrs k := by
  rw [S.count_plan,S.done O hk (h := T + 1) (o536 hT),S.before 1 k (by have := O.one k hk; lia)]; exact o543
theorem at_last (S : Sim W rem pk) (O : WkOk W) {k t : Nat} (hk : k < W.N) (ht : (t : Int) = lastOf W k) : pk t = some k := by
  have h1 : 0 < rem t k := (S.live_iff O hk (by have := last_ge O hk; exact o538 ht this)).mpr (o507 ht)
  have h2 : rem (t + 1) k = 0 := S.done O hk (o547 ht)
  rw [S.step] at h2
  split at h2
  · assumption
  · exact (o548 h1 h2).elim
theorem idx_plan (S : Sim W rem pk) (O : WkOk W) {k : Nat} (hk : k < W.N) : ∀ n t : Nat,(t : Int) = lastOf W k→(planL pk (t + n)).reverse.idxOf (k : Int) = n
  | 0,0,ht => by have := last_ge O hk; have := O.one k hk; lia
  | 0,t + 1,ht => by
    rw [Nat.add_zero,planL_succ,List.reverse_append]
    have : pkI pk (t + 1) = (k : Int) := pkI_eq.mpr (S.at_last O hk ht)
    simp [this]
  | n + 1,t,ht => by
    rw [← Nat.add_assoc,planL_succ,List.reverse_append]
    have hne : pkI pk (t + n + 1)≠(k : Int) := fun e => by
      have q := pkI_eq.mp e
      have h1 := (S.pick _ _ q).2.2.1
      have := S.done O hk (h := t + n + 1) (o549 ht)
      exact o548 h1 this
    simp only [List.reverse_cons,List.reverse_nil,List.nil_append,List.cons_append]
    rw [List.idxOf_cons,S.idx_plan O hk n t ht]
    have : (pkI pk (t + n + 1) == (k : Int)) = false := by simpa using hne
    rw [this]; rfl
theorem mem_plan (S : Sim W rem pk) (O : WkOk W) {k T : Nat} (hk : k < W.N) (hT : lastOf W k≤T) : (k : Int) ∈ planL pk T := by
  have := S.count_hrs O hk hT
  have h1 := O.hrs k hk
  exact List.count_pos_iff.mp (o540 this h1)
theorem late_plan (S : Sim W rem pk) (O : WkOk W) {k T : Nat} (hk : k < W.N) (hT : lastOf W k≤T) : ((planL pk T).length : Int) - ((planL pk T).reverse.idxOf (k : Int) : Nat) = lastOf W k := by
  have h1 := last_ge O hk
  have h2 := O.one k hk
  obtain ⟨t,ht⟩ : ∃ t : Nat,(t : Int) = lastOf W k := ⟨(lastOf W k).toNat,by exact o494 h1 h2⟩
  have := S.idx_plan O hk (T - t) t ht
  rw [show t + (T - t) = T by exact o550 hT ht] at this
  rw [this,planL_len]; exact o555 hT ht
end Sim
end Mine
end
section
namespace Mine
noncomputable abbrev T3 := Int × Int × Int
noncomputable def lt3 (x y : T3) : Bool := if x.1 = y.1 then (if x.2.1 = y.2.1 then decide (x.2.2 < y.2.2) else decide (x.2.1 < y.2.1)) else decide (x.1 < y.1)
noncomputable def le3 (x y : T3) : Prop := lt3 y x = false
theorem za4 (x : T3) : le3 x x := by unfold le3 lt3; simp
theorem y4 {x y z : T3} (h1 : le3 x y) (h2 : le3 y z) : le3 x z := by
  obtain ⟨a,b,c⟩ := x; obtain ⟨d,e,f⟩ := y; obtain ⟨p,q,r⟩ := z
  unfold le3 lt3 at *
  simp only at *
  split at h1 <;> split at h2 <;> (try split at h1) <;> (try split at h2) <;> simp only [decide_eq_false_iff_not] at h1 h2 <;> split <;> (try split) <;> simp only [decide_eq_false_iff_not] <;> lia
theorem zb1 {x y : T3} (h : lt3 x y = true) : le3 x y := by
  obtain ⟨a,b,c⟩ := x; obtain ⟨d,e,f⟩ := y
  unfold le3 lt3 at *
  simp only at *
  split at h <;> (try split at h) <;> simp only [decide_eq_true_eq] at h <;> split <;> (try split) <;> simp only [decide_eq_false_iff_not] <;> lia
noncomputable abbrev at3 (xs : List T3) (i : Nat) : T3 := xs.getD i (0,0,0)
theorem uh {xs : List T3} {i : Nat} (h : i < xs.length) : xs[i]? = some (at3 xs i) := by
  unfold at3; rw [List.getD_eq_getElem?_getD,List.getElem?_eq_getElem h]; rfl
theorem zad {xs : List T3} {i : Nat} (h : i < xs.length) : xs[i] = at3 xs i := by
  have := uh h; rw [List.getElem?_eq_getElem h] at this; exact Option.some.inj this
theorem yc {xs : List T3} {i : Nat} {v : T3} (h : i < xs.length) : at3 (xs.set i v) i = v := by
  unfold at3; rw [List.getD_eq_getElem?_getD,List.getElem?_set_self h]; rfl
theorem yj {xs : List T3} {i j : Nat} {v : T3} (h : i≠j) : at3 (xs.set i v) j = at3 xs j := by
  unfold at3; rw [List.getD_eq_getElem?_getD,List.getElem?_set_ne h,List.getD_eq_getElem?_getD]
noncomputable def IsHeap (xs : List T3) : Prop := ∀ j,0 < j→j < xs.length→le3 (at3 xs ((j - 1) / 2)) (at3 xs j)
structure HE (ys : List T3) (pos : Nat) : Prop where
  off : ∀ j,0 < j→j < ys.length→j≠pos→le3 (at3 ys ((j - 1) / 2)) (at3 ys j)
  up : 0 < pos→∀ j,0 < j→j < ys.length→(j - 1) / 2 = pos→le3 (at3 ys ((pos - 1) / 2)) (at3 ys j)
structure HU (ys : List T3) (pos : Nat) : Prop where
  off : ∀ j,0 < j→j < ys.length→j≠pos→(j - 1) / 2≠pos→le3 (at3 ys ((j - 1) / 2)) (at3 ys j)
  up : 0 < pos→∀ j,0 < j→j < ys.length→(j - 1) / 2 = pos→le3 (at3 ys ((pos - 1) / 2)) (at3 ys j)
theorem zfm (ys : List T3) {i j : Nat} (hi : i < ys.length) (hj : j < ys.length) : ((ys.set i (at3 ys j)).set j (at3 ys i)).Perm ys := by
  have := List.set_set_perm (as := ys) hi hj
  rw [zad hi,zad hj] at this
  exact this
theorem HE.stop0 {ys : List T3} (h : HE ys 0) : IsHeap ys := fun j h0 hj => h.off j h0 hj (by lia)
theorem HE.stop {ys : List T3} {pos : Nat} (h : HE ys pos) (hp : lt3 (at3 ys pos) (at3 ys ((pos - 1) / 2)) = false) : IsHeap ys := fun j h0 hj => by
  by_cases q : j = pos
  · subst q; exact hp
  · exact h.off j h0 hj q
theorem HE.step {ys : List T3} {pos : Nat} (h : HE ys pos) (h0 : 0 < pos) (hN : pos < ys.length) (hp : lt3 (at3 ys pos) (at3 ys ((pos - 1) / 2)) = true) :
    HE ((ys.set pos (at3 ys ((pos - 1) / 2))).set ((pos - 1) / 2) (at3 ys pos)) ((pos - 1) / 2) := by
  generalize hpp : (pos - 1) / 2 = p at *
  have hpn : p < pos := by lia
  have e0 : at3 ((ys.set pos (at3 ys p)).set p (at3 ys pos)) p = at3 ys pos := yc (by simp; lia)
  have e1 : at3 ((ys.set pos (at3 ys p)).set p (at3 ys pos)) pos = at3 ys p := by rw [yj (by lia),yc hN]
  have e2 : ∀ j,j≠p→j≠pos→at3 ((ys.set pos (at3 ys p)).set p (at3 ys pos)) j = at3 ys j := fun j a b => by rw [yj (Ne.symm a),yj (Ne.symm b)]
  have hle := zb1 hp
  refine ⟨fun j hj0 hj hne => ?_,fun hp0 j hj0 hj hjp => ?_⟩
  · simp only [List.length_set] at hj
    by_cases q : j = pos
    · subst q; rw [hpp,e0,e1]; exact hle
    · rw [e2 j hne q]
      by_cases z : (j - 1) / 2 = p
      · rw [z,e0]; have := h.off j hj0 hj q; rw [z] at this; exact y4 hle this
      · by_cases z' : (j - 1) / 2 = pos
        · rw [z',e1]; have := h.up h0 j hj0 hj z'; rw [hpp] at this; exact this
        · rw [e2 _ z z']; exact h.off j hj0 hj q
  · simp only [List.length_set] at hj
    have hpo := h.off p hp0 (by lia) (by lia)
    rw [e2 ((p - 1) / 2) (by lia) (by lia)]
    by_cases q : j = pos
    · subst q; rw [e1]; exact hpo
    · rw [e2 j (by lia) q]
      have := h.off j hj0 hj q
      rw [hjp] at this
      exact y4 hpo this
theorem HU.step {ys : List T3} {pos c o : Nat} (h : HU ys pos) (hN : pos < ys.length) (hc : c < ys.length) (hcp : 0 < c∧(c - 1) / 2 = pos) (ho : ∀ j,0 < j→j < ys.length→(j - 1) / 2 = pos→le3 (at3 ys c) (at3 ys j)) :
    HU ((ys.set pos (at3 ys c)).set c (at3 ys pos)) c := by
  have hcne : pos < c := by lia
  have e0 : at3 ((ys.set pos (at3 ys c)).set c (at3 ys pos)) c = at3 ys pos := yc (by simpa using hc)
  have e1 : at3 ((ys.set pos (at3 ys c)).set c (at3 ys pos)) pos = at3 ys c := by rw [yj (by lia),yc hN]
  have e2 : ∀ j,j≠c→j≠pos→at3 ((ys.set pos (at3 ys c)).set c (at3 ys pos)) j = at3 ys j := fun j a b => by rw [yj (Ne.symm a),yj (Ne.symm b)]
  refine ⟨fun j hj0 hj hne hpne => ?_,fun _ j hj0 hj hjc => ?_⟩
  · simp only [List.length_set] at hj
    by_cases q : j = pos
    · subst q; rw [e1,e2 ((j - 1) / 2) hpne (by lia)]; exact h.up hj0 c hcp.1 hc hcp.2
    · rw [e2 j hne q]
      by_cases z : (j - 1) / 2 = pos
      · rw [z,e1]; exact ho j hj0 hj z
      · rw [e2 _ hpne z]; exact h.off j hj0 hj q z
  · simp only [List.length_set] at hj
    rw [hcp.2,e1,e2 j (by lia) (by lia)]
    have := h.off j hj0 hj (by lia) (by lia)
    rw [hjc] at this; exact this
theorem HU.leaf {ys : List T3} {pos : Nat} (h : HU ys pos) (hl : ys.length≤2 * pos + 1) : HE ys pos :=
  ⟨fun j h0 hj hne => h.off j h0 hj hne (by lia),fun _ j h0 hj hjp => by lia⟩
theorem IsHeap.root {ys : List T3} (h : IsHeap ys) (v : T3) : HU (ys.set 0 v) 0 :=
  ⟨fun j h0 hj hne hpne => by
    rw [yj (Ne.symm hpne),yj (Ne.symm hne)]; exact h j h0 (by simpa using hj),fun h0 => by lia⟩
theorem IsHeap.snoc {ys : List T3} (h : IsHeap ys) (v : T3) : HE (ys++[v]) ys.length := by
  have e : ∀ j,j < ys.length→at3 (ys++[v]) j = at3 ys j := fun j hj => by
    unfold at3; rw [List.getD_eq_getElem?_getD,List.getElem?_append_left hj,List.getD_eq_getElem?_getD]
  refine ⟨fun j h0 hj hne => ?_,fun h0 j hj0 hj hjp => ?_⟩
  · have : j < ys.length := by simp at hj; lia
    rw [e j this,e _ (by lia)]; exact h j h0 this
  · simp at hj; lia
theorem IsHeap.dropLast {ys : List T3} (h : IsHeap ys) (n : Nat) : IsHeap (ys.take n) := by
  have e : ∀ j,j < n→at3 (ys.take n) j = at3 ys j := fun j hj => by
    unfold at3; rw [List.getD_eq_getElem?_getD,List.getElem?_take_of_lt hj,List.getD_eq_getElem?_getD]
  intro j h0 hj
  have hj' : j < n∧j < ys.length := by simp at hj; lia
  rw [e j hj'.1,e _ (by lia)]; exact h j h0 hj'.2
theorem IsHeap.min {ys : List T3} (h : IsHeap ys) : ∀ j,j < ys.length→le3 (at3 ys 0) (at3 ys j) := by
  intro j
  induction j using Nat.strongRecOn with
  | ind j ih =>
    intro hj
    by_cases q : j = 0
    · subst q; exact za4 _
    · exact y4 (ih ((j - 1) / 2) (by lia) (by lia)) (h j (by lia) hj)
theorem IsHeap.min_mem {ys : List T3} (h : IsHeap ys) {x : T3} (hx : x ∈ ys) : le3 (at3 ys 0) x := by
  obtain ⟨j,hj,rfl⟩ := List.mem_iff_getElem.mp hx
  rw [zad hj]; exact h.min j hj
theorem IsHeap.nil : IsHeap [] := fun j _ hj => by simp at hj
end Mine
end
section
namespace Mine
noncomputable def zdw (W : Wk) (l : List Nat) : Option Nat := l.find? fun k => l.all fun j => decide (kle W k j)
theorem zls (W : Wk) : ∀ l : List Nat,l≠[]→∃ k ∈ l,∀ j ∈ l,kle W k j
  | [],h => absurd rfl h
  | [a],_ => ⟨a,List.mem_singleton.mpr rfl,fun j hj => by rw [List.mem_singleton] at hj; subst hj; exact kle.refl W j⟩
  | a :: b :: l,_ => by
    obtain ⟨k,hk,hm⟩ := zls W (b :: l) (by simp)
    rcases kle.total W a k with h | h
    · exact ⟨a,List.mem_cons_self ..,fun j hj => by
        rcases List.mem_cons.mp hj with rfl | hj
        · exact kle.refl W j
        · exact h.trans (hm j hj)⟩
    · exact ⟨k,List.mem_cons_of_mem _ hk,fun j hj => by
        rcases List.mem_cons.mp hj with rfl | hj
        · exact h
        · exact hm j hj⟩
theorem zlq {W : Wk} {l : List Nat} {k : Nat} (h : zdw W l = some k) : k ∈ l∧∀ j ∈ l,kle W k j := by
  unfold zdw at h
  refine ⟨List.mem_of_find?_eq_some h,fun j hj => ?_⟩
  have := List.find?_some h
  exact of_decide_eq_true (List.all_eq_true.mp this j hj)
theorem zlr {W : Wk} {l : List Nat} (h : zdw W l = none) : l = [] := by
  cases l with
  | nil => rfl
  | cons a l =>
    obtain ⟨k,hk,hm⟩ := zls W (a :: l) (by simp)
    unfold zdw at h
    have := List.find?_eq_none.mp h k hk
    exact absurd (List.all_eq_true.mpr fun j hj => decide_eq_true (hm j hj)) this
noncomputable def zh4 (W : Wk) (r : Nat→Int) (h : Nat) : List Nat := (List.range W.N).filter fun j => decide (W.row j≤(h : Int)∧0 < r j)
noncomputable def remF (W : Wk) : Nat→Nat→Int
  | 0 => W.hrs
  | h + 1 => fun j => if zdw W (zh4 W (remF W h) h) = some j then remF W h j - 1 else remF W h j
noncomputable def pkF (W : Wk) (h : Nat) : Option Nat := zdw W (zh4 W (remF W h) h)
theorem simF (W : Wk) : Sim W (remF W) (pkF W) where
  zero := fun _ => rfl
  step := fun _ _ => rfl
  pick := fun h k e => by
    obtain ⟨h1,h2⟩ := zlq e
    obtain ⟨h3,h4⟩ := List.mem_filter.mp h1
    have h4 := of_decide_eq_true h4
    exact ⟨List.mem_range.mp h3,h4.1,h4.2,fun j hj hr hp => h2 j (List.mem_filter.mpr ⟨List.mem_range.mpr hj,decide_eq_true ⟨hr,hp⟩⟩)⟩
  idle := fun h e j hj hr hp => by
    have := zlr e
    have hm : j ∈ zh4 W (remF W h) h := List.mem_filter.mpr ⟨List.mem_range.mpr hj,decide_eq_true ⟨hr,hp⟩⟩
    rw [this] at hm; injection hm
theorem jn {α β : Type} {f g : α→Option β} : ∀ {l : List α},(∀ x ∈ l,f x = g x)→l.filterMap f = l.filterMap g
  | [],_ => rfl
  | a :: l,h => by
    rw [List.filterMap_cons,List.filterMap_cons,h a (List.mem_cons_self ..),jn fun x hx => h x (List.mem_cons_of_mem _ hx)]
variable {W : Wk} {rem : Nat→Nat→Int} {pk : Nat→Option Nat}
noncomputable def pf (W : Wk) (rem : Nat→Nat→Int) (h j : Nat) : Option T3 := if 0 < rem h j then some (W.due j,(j : Int),rem h j) else none
noncomputable def vc (W : Wk) (rem : Nat→Nat→Int) (h i : Nat) : List T3 := (List.range i).filterMap (pf W rem h)
theorem zi6 {h i : Nat} (hp : 0 < rem h i) : vc W rem h (i + 1) = vc W rem h i++[(W.due i,(i : Int),rem h i)] := by
  unfold vc
  rw [List.range_succ,List.filterMap_append]
  simp [pf,hp]
set_option tactic.hygienic true in
theorem mem_poolL {h i : Nat} {x : T3} : x ∈ vc W rem h i↔∃ j,j < i∧0 < rem h j∧x = (W.due j,(j : Int),rem h j) := by
  unfold vc
  simp only [List.mem_filterMap,List.mem_range,pf]
  constructor
  · rintro ⟨j,hj,e⟩
    split at e
    · rename_i q; exact ⟨j,hj,q,(Option.some.inj e).symm⟩
    · injection e
  · rintro hx0; obtain ⟨j,hj,q,rfl⟩ := hx0
    exact ⟨j,hj,if_pos q⟩
theorem le3_kle {W : Wk} {p j : Nat} {r s : Int} (h : le3 (W.due p,(p : Int),r) (W.due j,(j : Int),s)) : kle W p j := by
  unfold le3 lt3 at h
  simp only at h
  unfold kle
  split at h
  · split at h
    · exact o562 (by assumption) (by assumption)
    · simp only [decide_eq_false_iff_not] at h; exact o564 (by assumption) h
  · simp only [decide_eq_false_iff_not] at h; exact o565 (by assumption) h
theorem pick_min (S : Sim W rem pk) {h i : Nat} (hi : i≤W.N) (harr : ∀ j,j < W.N→(j < i↔W.row j≤(h : Int))) {m : T3} {ys : List T3} (hp : (m :: ys).Perm (vc W rem h i)) (hm : ∀ y ∈ ys,le3 m y) :
    ∃ p,pk h = some p∧m = (W.due p,(p : Int),rem h p)∧0 < rem h p∧(if 1 < rem h p then (W.due p,(p : Int),rem h p - 1) :: ys else ys).Perm (vc W rem (h + 1) i) := by
  obtain ⟨p,hpi,hr,rfl⟩ := mem_poolL.mp (hp.mem_iff.mp (List.mem_cons_self ..))
  have hpN : p < W.N := by exact o255 hi hpi
  have hkl : ∀ j,j < W.N→W.row j≤(h : Int)→0 < rem h j→kle W p j := by
    intro j hj hrow hrem
    have : (W.due j,(j : Int),rem h j) ∈ (W.due p,(p : Int),rem h p) :: ys := hp.mem_iff.mpr (mem_poolL.mpr ⟨j,(harr j hj).mpr hrow,hrem,rfl⟩)
    rcases List.mem_cons.mp this with e | e
    · have : (j : Int) = (p : Int) := congrArg (fun x : T3 => x.2.1) e
      have : j = p := by exact o563 this
      subst this; exact kle.refl W j
    · exact le3_kle (hm _ e)
  have hrow := (harr p hpN).mp hpi
  have hpk : pk h = some p := by
    cases q : pk h with
    | none => exact absurd hr (S.idle h q p hpN hrow)
    | some p' =>
      obtain ⟨a,b,c,d⟩ := S.pick h p' q
      rw [kle.anti (hkl p' a b c) (d p hpN hrow hr)]
  refine ⟨p,hpk,rfl,hr,?_⟩
  have hmem : p ∈ List.range i := List.mem_range.mpr hpi
  have e1 := (List.perm_cons_erase hmem).filterMap (pf W rem h)
  have e2 := (List.perm_cons_erase hmem).filterMap (pf W rem (h + 1))
  have same : ((List.range i).erase p).filterMap (pf W rem (h + 1)) = ((List.range i).erase p).filterMap (pf W rem h) := by
    refine jn fun j hj => ?_
    have hne : j≠p := (List.Nodup.mem_erase_iff List.nodup_range).mp hj |>.1
    have hst : rem (h + 1) j = rem h j := by rw [S.step,hpk,if_neg (by simpa using Ne.symm hne)]
    unfold pf
    rw [hst]
  have f1 : pf W rem h p = some (W.due p,(p : Int),rem h p) := if_pos hr
  rw [List.filterMap_cons,f1] at e1
  have hys : ys.Perm (((List.range i).erase p).filterMap (pf W rem h)) := List.Perm.cons_inv (hp.trans e1)
  have hstep : rem (h + 1) p = rem h p - 1 := by rw [S.step,if_pos hpk]
  rw [List.filterMap_cons,same] at e2
  unfold vc
  by_cases q : 1 < rem h p
  · have f2 : pf W rem (h + 1) p = some (W.due p,(p : Int),rem h p - 1) := by unfold pf; rw [hstep,if_pos (o566 hstep q)]
    rw [f2] at e2
    rw [if_pos q]
    exact (hys.cons _).trans e2.symm
  · have f2 : pf W rem (h + 1) p = none := by unfold pf; rw [hstep,if_neg (o567 hr hstep q)]
    rw [f2] at e2
    rw [if_neg q]
    exact hys.trans e2.symm
theorem zku (S : Sim W rem pk) {h i : Nat} (hi : i≤W.N) (harr : ∀ j,j < W.N→(j < i↔W.row j≤(h : Int))) (hp : vc W rem h i = []) : pk h = none∧vc W rem (h + 1) i = [] := by
  have hn : pk h = none := by
    cases q : pk h with
    | none => rfl
    | some p =>
      obtain ⟨a,b,c,_⟩ := S.pick h p q
      have : (W.due p,(p : Int),rem h p) ∈ vc W rem h i := mem_poolL.mpr ⟨p,(harr p a).mpr b,c,rfl⟩
      rw [hp] at this; injection this
  refine ⟨hn,?_⟩
  unfold vc at hp ⊢
  rw [← hp]
  refine jn fun j _ => ?_
  unfold pf
  rw [S.step,hn]; simp
end Mine
end
section
namespace Mine
open PySem PyProof.Rows
theorem qp {α β : Type} {f : LM α} {g : α→LM β} {st st' : St} {a : α} (h : f st = some (a,st')) : zw f g st = g a st' := by unfold zw; rw [h]
theorem getA (g l : List LObj) (i : Nat) : (g++l)[g.length + i]? = l[i]? := by rw [List.getElem?_append_right (o7)]; simp
theorem jm (g l : List LObj) : (g++l)[g.length]? = l[0]? := getA g l 0
theorem setA' (g l : List LObj) (i : Nat) (o : LObj) : (g++l).set (g.length + i) o = g++l.set i o := by
  rw [List.set_append_right _ _ (o7)]; simp
theorem setA0 (g l : List LObj) (o : LObj) : (g++l).set g.length o = g++l.set 0 o := setA' g l 0 o
theorem qw {g l : List LObj} {i : Nat} {o : LObj} (h : g[i]? = some o) : (g++l)[i]? = some o := by
  rw [List.getElem?_append_left (List.getElem?_eq_some_iff.mp h).1]; exact h
theorem v3 {t : LM Bool} {f : LM Fl} {P Q : St→Prop} {μ : St→Nat}
    (h : ∀ st,P st→(∃ st₁ st',t st = some (true,st₁)∧(f st₁ = some (.next,st')∨f st₁ = some (.cont,st'))∧P st'∧μ st' < μ st)∨(∃ st',t st = some (false,st')∧Q st')∨(∃ st₁ st',t st = some (true,st₁)∧f st₁ = some (.brk,st')∧Q st')) :
    ∀ (n : Nat) (st : St),P st→μ st < n→∃ st',jq n t f st = some (.next,st')∧Q st'
  | 0,_,_,hn => by exact (o8 hn).elim
  | n + 1,st,hp,hn => by
    unfold jq
    rcases h st hp with ⟨st₁,st',h1,h2,h3,h4⟩ | ⟨st',h1,h2⟩ | ⟨st₁,st',h1,h2,h3⟩
    · rw [qp h1]
      simp only [if_true]
      rcases h2 with h2 | h2 <;> (rw [qp h2]; exact v3 h n st' h3 (by exact o9 hn h4))
    · rw [qp h1]
      exact ⟨st',rfl,h2⟩
    · rw [qp h1]
      simp only [if_true]
      rw [qp h2]
      exact ⟨st',rfl,h3⟩
theorem zf1 {src : Src} {vs : List V} {body : V→LM Fl} {P : Nat→St→Prop} (hsrc : ∀ j st,P j st→src.get st.g j = some vs[j]?)
    (h : ∀ j v st,vs[j]? = some v→P j st→∃ st',(body v st = some (.next,st')∨body v st = some (.cont,st'))∧P (j + 1) st') :
    ∀ (n j : Nat) (st : St),P j st→j≤vs.length→vs.length - j < n→∃ st',zaz n src j body st = some (.next,st')∧P vs.length st'
  | 0,_,_,_,_,hn => by exact (o10 hn).elim
  | n + 1,j,st,hp,hj,hn => by
    unfold zaz
    rw [hsrc j st hp]
    by_cases q : j < vs.length
    · rw [List.getElem?_eq_getElem q]
      obtain ⟨st',h2,h3⟩ := h j _ st (List.getElem?_eq_getElem q) hp
      rcases h2 with h2 | h2 <;> (simp only [qp h2]; exact zf1 hsrc h n (j + 1) st' h3 (o11 q) (by exact o12 hn q))
    · have : j = vs.length := by exact o13 hj q
      subst this
      rw [List.getElem?_eq_none (o14)]
      exact ⟨st,rfl,hp⟩
theorem y7 {vs : List V} {src : Src} {v : V} {f : LM V} {asg : V→LM Unit} {body : LM Fl} {st st₁ : St} {n : Nat} {P : Nat→St→Prop} (hf : f st = some (v,st₁)) (hs : vu st₁.g v = some src) (hsrc : ∀ j st,P j st→src.get st.g j = some vs[j]?)
    (h : ∀ j v st,vs[j]? = some v→P j st→∃ st',(zw (asg v) (fun _ => body) st = some (.next,st')∨zw (asg v) (fun _ => body) st = some (.cont,st'))∧P (j + 1) st') (h0 : P 0 st₁) (hn : vs.length < n) :
    ∃ st',forS n f asg body st = some (.next,st')∧P vs.length st' := by
  unfold forS
  rw [qp hf,hs]
  exact zf1 hsrc h n 0 st₁ h0 (o15) (o16 hn)
theorem ze6 {g : List LObj} {src : Src} {vs : List V} {k : Nat} {caps : List (Option V)} {asg : V→LM Unit} {test : LM Bool} {elt : LM V} (res : V→Option V)
    (hsrc : ∀ x junk j,src.get (g++x :: junk) j = some vs[j]?) (hz : vs.length≤szL)
    (h : ∀ v ∈ vs,∀ o x junk,o.length = k→∃ o' more,o'.length = k∧asg v ⟨o++caps,g++x :: junk⟩ = some ((),⟨o'++caps,g++x :: junk⟩) ∧
      (match res v with | some y => test ⟨o'++caps,g++x :: junk⟩ = some (true,⟨o'++caps,g++x :: junk⟩)∧elt ⟨o'++caps,g++x :: junk⟩ = some (y,⟨o'++caps,g++x :: (junk++more)⟩) | none => test ⟨o'++caps,g++x :: junk⟩ = some (false,⟨o'++caps,g++x :: (junk++more)⟩))) :
    ∀ (n j : Nat) (o : List (Option V)) (ys : List V) (junk : List LObj),o.length = k→j≤vs.length→vs.length - j < n→ys.length≤j →
      ∃ o' junk',zc2 n src j g.length asg test elt ⟨o++caps,g++.lst ys :: junk⟩ = some ⟨o'++caps,g++.lst (ys++(vs.drop j).filterMap res) :: junk'⟩
  | 0,_,_,_,_,_,_,hn,_ => by exact (o10 hn).elim
  | n + 1,j,o,ys,junk,ho,hj,hn,hy => by
    unfold zc2
    simp only [hsrc]
    by_cases q : j < vs.length
    · rw [List.getElem?_eq_getElem q]
      obtain ⟨o',more,ho',h1,h2⟩ := h vs[j] (List.getElem_mem q) o (.lst ys) junk ho
      simp only [h1]
      have hd : (vs.drop j).filterMap res = (match res vs[j] with | some y => [y] | none => [])++(vs.drop (j + 1)).filterMap res := by
        rw [List.drop_eq_getElem_cons q,List.filterMap_cons]
        cases res vs[j] <;> rfl
      cases hr : res vs[j] with
      | some y =>
        rw [hr] at h2 hd
        simp only [h2.1,h2.2]
        have ha : zt [.ref g.length,y] (g++.lst ys :: (junk++more)) = some (.none,g++.lst (ys++[y]) :: (junk++more)) := by
          simp only [zt,jm,List.getElem?_cons_zero,setA0,List.set_cons_zero]
          rw [if_pos (o17 hz hy q)]
        simp only [ha]
        obtain ⟨o'',junk',e⟩ := ze6 res hsrc hz h n (j + 1) o' (ys++[y]) (junk++more) ho' (o11 q) (o12 hn q) (by simp; exact o18 hy)
        exact ⟨o'',junk',by rw [e,hd]; simp⟩
      | none =>
        rw [hr] at h2 hd
        simp only [h2]
        obtain ⟨o'',junk',e⟩ := ze6 res hsrc hz h n (j + 1) o' ys (junk++more) ho' (o11 q) (o12 hn q) (o19 hy)
        exact ⟨o'',junk',by rw [e,hd]; simp⟩
    · have : j = vs.length := by exact o13 hj q
      subst this
      rw [List.getElem?_eq_none (o14)]
      exact ⟨o,junk,by simp⟩
theorem ue {g : List LObj} {src : Src} {vs : List V} {k : Nat} {cap : List Nat} {asg : V→LM Unit} {test : LM Bool} {elt : LM V} {f : LM V} {v : V} {loc : List (Option V)} {n : Nat} (res : V→Option V)
    (hf : f ⟨loc,g⟩ = some (v,⟨loc,g⟩)) (hs : vu g v = some src) (hsrc : ∀ x junk j,src.get (g++x :: junk) j = some vs[j]?) (hz : vs.length≤szL) (hn : vs.length < n)
    (h : ∀ v ∈ vs,∀ o x junk,o.length = k→∃ o' more,o'.length = k∧asg v ⟨o++cap.map (fun i => (loc[i]?).join),g++x :: junk⟩ = some ((),⟨o'++cap.map (fun i => (loc[i]?).join),g++x :: junk⟩) ∧
      (match res v with | some y => test ⟨o'++cap.map (fun i => (loc[i]?).join),g++x :: junk⟩ = some (true,⟨o'++cap.map (fun i => (loc[i]?).join),g++x :: junk⟩)∧elt ⟨o'++cap.map (fun i => (loc[i]?).join),g++x :: junk⟩ = some (y,⟨o'++cap.map (fun i => (loc[i]?).join),g++x :: (junk++more)⟩) | none => test ⟨o'++cap.map (fun i => (loc[i]?).join),g++x :: junk⟩ = some (false,⟨o'++cap.map (fun i => (loc[i]?).join),g++x :: (junk++more)⟩))) :
    ∃ junk,kb n f k cap asg test elt ⟨loc,g⟩ = some (.ref g.length,⟨loc,g++.lst (vs.filterMap res) :: junk⟩) := by
  obtain ⟨o',junk',e⟩ := ze6 res hsrc hz h n 0 (List.replicate k none) [] [] (by simp) (o15) (o16 hn) (by simp)
  unfold kb
  rw [qp hf]
  simp only [hs]
  rw [e]
  exact ⟨junk',by simp⟩
theorem za3 {g : List LObj} {vs : List V} : ∀ x junk j,Src.get (g++x :: junk) j (.vals vs) = some vs[j]? := fun _ _ _ => rfl
theorem src_lst {g : List LObj} {i : Nat} {vs : List V} (h : g[i]? = some (.lst vs)) : ∀ x junk j,Src.get (g++x :: junk) j (.lst i) = some vs[j]? := fun x junk j => by
  unfold Src.get; simp only; rw [qw h]
theorem zfl (n : Nat) (b : Bool) (g : List LObj) : ym n [.bool b] g = some (.bool b,g) := by
  cases b <;> rfl
theorem zjo (n : Nat) (l : List UInt8) (g : List LObj) : za8 n [.bytes l] g = some (.bytes l,g) := by
  rfl
theorem za1 (n : Nat) (l : List UInt8) (g : List LObj) : kr n [.bytes l] g = some (.bytes l,g) := by
  rfl
theorem zc3 (n : Nat) (l : List UInt8) (g : List LObj) : qk n [.bytes l] g = some (.bytes l,g) := by
  rfl
end Mine
end
namespace Mine
theorem zzs {α : Type} {a : α} {as : List α} {i : Nat} : (a :: as)[i + 1]? = as[i]? := rfl
theorem zzz {α : Type} {a : α} {l : List α} : (a :: l)[0]? = some a := rfl
theorem zts {α : Type} {a b : α} {as : List α} {i : Nat} : (a :: as).set (i + 1) b = a :: as.set i b := rfl
theorem ztz {α : Type} {a b : α} {as : List α} : (a :: as).set 0 b = b :: as := rfl
end Mine
section
namespace Mine
open PySem PyProof.Rows
section
variable {α β : Type} (st s : St)
noncomputable def z8 (a : α) : LM α := fun st => some (a,st)
noncomputable def jd (x : Option (α × St)) (g : α→LM β) : Option (β × St) := zw (fun _ => x) g ⟨[],[]⟩
theorem u9 (a : α) (g : α→LM β) : jd (some (a,s)) g = g a s := rfl
theorem zaa (g : α→LM β) : jd none g = none := rfl
noncomputable def optK (o : Option α) (s : St) : Option (α × St) := optL o s
theorem zbw (a : α) : optK (some a) s = some (a,s) := rfl
theorem zbx : optK (none : Option α) s = none := rfl
theorem vp (f : LM α) (g : α→LM β) : zw f g st = jd (f st) g := rfl
noncomputable def seqK (g : LM Fl) (fl : Fl) : LM Fl := seqS (z8 fl) g
theorem zq (f g : LM Fl) : seqS f g st = jd (f st) (seqK g) := rfl
theorem zbo (g : LM Fl) : seqK g .next s = g s := rfl
theorem zec (g : LM Fl) : seqK g .brk s = some (.brk,s) := rfl
theorem zbp (g : LM Fl) : seqK g .cont s = some (.cont,s) := rfl
theorem zeb (g : LM Fl) (v : V) : seqK g (.ret v) s = some (.ret v,s) := rfl
noncomputable def asgK (i : Nat) (v : V) : LM Fl := asgS i (z8 v)
theorem qv (i : Nat) (f : LM V) : asgS i f st = jd (f st) (asgK i) := rfl
theorem zh7 (i : Nat) (v : V) : asgK i v s = some (.next,⟨s.loc.set i (some v),s.g⟩) := rfl
noncomputable def retK (v : V) : LM Fl := retS (z8 v)
theorem zkp (f : LM V) : retS f st = jd (f st) retK := rfl
theorem zhc (v : V) : retK v s = some (.ret v,s) := rfl
noncomputable def exprK (v : V) : LM Fl := ja (z8 v)
theorem wv (f : LM V) : ja f st = jd (f st) exprK := rfl
theorem ze0 : exprK .none s = some (.next,s) := rfl
noncomputable def iteK (f g : LM α) (b : Bool) : LM α := iteL (z8 b) f g
theorem jz (t : LM Bool) (f g : LM α) : iteL t f g st = jd (t st) (iteK f g) := rfl
theorem zb3 (f g : LM α) : iteK f g true s = f s := rfl
theorem uy (f g : LM α) : iteK f g false s = g s := rfl
noncomputable def andK (u : LM Bool) (b : Bool) : LM Bool := andT (z8 b) u
theorem zcq (t u : LM Bool) : andT t u st = jd (t st) (andK u) := rfl
theorem zcr (u : LM Bool) : andK u true s = u s := rfl
theorem zae (u : LM Bool) : andK u false s = some (false,s) := rfl
noncomputable def orK (u : LM Bool) (b : Bool) : LM Bool := orT (z8 b) u
theorem orT_ap (t u : LM Bool) : orT t u st = jd (t st) (orK u) := rfl
theorem zeg (u : LM Bool) : orK u true s = some (true,s) := rfl
theorem zbv (u : LM Bool) : orK u false s = u s := rfl
noncomputable def notK (b : Bool) : LM Bool := notT (z8 b)
theorem notT_ap (t : LM Bool) : notT t st = jd (t st) notK := rfl
theorem zhg (b : Bool) : notK b s = some (!b,s) := rfl
noncomputable def boolK (b : Bool) : LM V := boolE (z8 b)
theorem boolE_ap (t : LM Bool) : boolE t st = jd (t st) boolK := rfl
theorem ze8 (b : Bool) : boolK b s = some (.bool b,s) := rfl
noncomputable def cmpK (o : List LObj→V→V→Option Bool) (g : LM V) (a : V) : LM Bool := cmpT o (z8 a) g
noncomputable def cmpK2 (o : List LObj→V→V→Option Bool) (a b : V) : LM Bool := cmpT o (z8 a) (z8 b)
theorem jp (o : List LObj→V→V→Option Bool) (f g : LM V) : cmpT o f g st = jd (f st) (cmpK o g) := rfl
theorem zh0 (o : List LObj→V→V→Option Bool) (g : LM V) (a : V) : cmpK o g a s = jd (g s) (cmpK2 o a) := rfl
theorem ze3 (o : List LObj→V→V→Option Bool) (a b : V) : cmpK2 o a b s = optK (o s.g a b) s := rfl
noncomputable def chnK (o o' : List LObj→V→V→Option Bool) (g k : LM V) (a : V) : LM Bool := chnT o o' (z8 a) g k
noncomputable def chnK2 (o o' : List LObj→V→V→Option Bool) (k : LM V) (a b : V) : LM Bool := chnT o o' (z8 a) (z8 b) k
noncomputable def chnK3 (o' : List LObj→V→V→Option Bool) (k : LM V) (b : V) (c : Bool) : LM Bool := if c then zw k (cmpK2 o' b) else fun st => some (false,st)
theorem chnT_ap (o o' : List LObj→V→V→Option Bool) (f g k : LM V) : chnT o o' f g k st = jd (f st) (chnK o o' g k) := rfl
theorem zh2 (o o' : List LObj→V→V→Option Bool) (g k : LM V) (a : V) : chnK o o' g k a s = jd (g s) (chnK2 o o' k a) := rfl
theorem ze4 (o o' : List LObj→V→V→Option Bool) (k : LM V) (a b : V) : chnK2 o o' k a b s = jd (optK (o s.g a b) s) (chnK3 o' k b) := rfl
theorem u5 (o' : List LObj→V→V→Option Bool) (k : LM V) (b : V) : chnK3 o' k b true s = jd (k s) (cmpK2 o' b) := rfl
theorem yr (o' : List LObj→V→V→Option Bool) (k : LM V) (b : V) : chnK3 o' k b false s = some (false,s) := rfl
noncomputable def truK (o : List LObj→V→Option Bool) (a : V) : LM Bool := truT o (z8 a)
theorem zkb (o : List LObj→V→Option Bool) (f : LM V) : truT o f st = jd (f st) (truK o) := rfl
theorem zg0 (o : List LObj→V→Option Bool) (a : V) : truK o a s = optK (o s.g a) s := rfl
noncomputable def binK (o : V→V→Option V) (g : LM V) (a : V) : LM V := binE o (z8 a) g
noncomputable def binK2 (o : V→V→Option V) (a b : V) : LM V := binE o (z8 a) (z8 b)
theorem ww (o : V→V→Option V) (f g : LM V) : binE o f g st = jd (f st) (binK o g) := rfl
theorem zh3 (o : V→V→Option V) (g : LM V) (a : V) : binK o g a s = jd (g s) (binK2 o a) := rfl
theorem ze9 (o : V→V→Option V) (a b : V) : binK2 o a b s = optK (o a b) s := rfl
noncomputable def unK (o : V→Option V) (a : V) : LM V := unE o (z8 a)
theorem unE_ap (o : V→Option V) (f : LM V) : unE o f st = jd (f st) (unK o) := rfl
theorem zj4 (o : V→Option V) (a : V) : unK o a s = optK (o a) s := rfl
noncomputable def binGK (o : List LObj→V→V→Option (V × List LObj)) (g : LM V) (a : V) : LM V := binG o (z8 a) g
noncomputable def binGK2 (o : List LObj→V→V→Option (V × List LObj)) (a b : V) : LM V := binG o (z8 a) (z8 b)
noncomputable def binGL (x : Option (V × List LObj)) : LM V := binG (fun _ _ _ => x) (z8 .none) (z8 .none)
theorem zlp (o : List LObj→V→V→Option (V × List LObj)) (f g : LM V) : binG o f g st = jd (f st) (binGK o g) := rfl
theorem zfa (o : List LObj→V→V→Option (V × List LObj)) (g : LM V) (a : V) : binGK o g a s = jd (g s) (binGK2 o a) := rfl
theorem zci (o : List LObj→V→V→Option (V × List LObj)) (a b : V) : binGK2 o a b s = binGL (o s.g a b) s := rfl
theorem zab (v : V) (g' : List LObj) : binGL (some (v,g')) s = some (v,⟨s.loc,g'⟩) := rfl
theorem zac : binGL none s = none := rfl
noncomputable def unGK (o : List LObj→V→Option (V × List LObj)) (a : V) : LM V := unG o (z8 a)
noncomputable def unGL (x : Option (V × List LObj)) : LM V := unG (fun _ _ => x) (z8 .none)
theorem unG_ap (o : List LObj→V→Option (V × List LObj)) (f : LM V) : unG o f st = jd (f st) (unGK o) := rfl
theorem zgw (o : List LObj→V→Option (V × List LObj)) (a : V) : unGK o a s = unGL (o s.g a) s := rfl
theorem zbg (v : V) (g' : List LObj) : unGL (some (v,g')) s = some (v,⟨s.loc,g'⟩) := rfl
theorem zbh : unGL none s = none := rfl
noncomputable def itemK (g : LM V) (a : V) : LM V := zu (z8 a) g
noncomputable def itemK2 (a b : V) : LM V := zu (z8 a) (z8 b)
theorem zet (f g : LM V) : zu f g st = jd (f st) (itemK g) := rfl
theorem zes (g : LM V) (a : V) : itemK g a s = jd (g s) (itemK2 a) := rfl
theorem zb2 (a b : V) : itemK2 a b s = optK (jg s.g a b) s := rfl
theorem qn (i : Nat) (loc : List (Option V)) (g : List LObj) : ldE i ⟨loc,g⟩ = match loc[i]? with | some (some v) => some (v,⟨loc,g⟩) | _ => none := rfl
theorem yy (i : Nat) (v : V) (loc : List (Option V)) (g : List LObj) : stS i v ⟨loc,g⟩ = some ((),⟨loc.set i (some v),g⟩) := rfl
theorem qb (v : V) : zd v st = some (v,st) := rfl
theorem zj : zm st = some (.next,st) := rfl
theorem ze7 : brkS st = some (.brk,st) := rfl
theorem za7 : za0 st = some (.cont,st) := rfl
theorem j9 : nilL st = some ([],st) := rfl
noncomputable def consK (fs : LM (List V)) (v : V) : LM (List V) := zl (z8 v) fs
noncomputable def consK2 (v : V) (vs : List V) : LM (List V) := zl (z8 v) (z8 vs)
theorem jw (f : LM V) (fs : LM (List V)) : zl f fs st = jd (f st) (consK fs) := rfl
theorem ze2 (fs : LM (List V)) (v : V) : consK fs v s = jd (fs s) (consK2 v) := rfl
theorem zcd (v : V) (vs : List V) : consK2 v vs s = some (v :: vs,s) := rfl
noncomputable def tupK (vs : List V) : LM V := tupE (z8 vs)
theorem zka (fs : LM (List V)) : tupE fs st = jd (fs st) tupK := rfl
theorem zgz (vs : List V) : tupK vs s = if vs.length≤szL then some (.tup vs,s) else none := rfl
noncomputable def lstK (vs : List V) : LM V := lstE (z8 vs)
theorem zen (fs : LM (List V)) : lstE fs st = jd (fs st) lstK := rfl
theorem zhl (vs : List V) : lstK vs s = if vs.length≤szL then some (.ref s.g.length,⟨s.loc,s.g++[.lst vs]⟩) else none := rfl
noncomputable def callK (fl : LF) (args : List V) : LM V := zr fl (z8 args)
noncomputable def callL (x : Option (V × List LObj)) : LM V := zr (fun _ _ => x) (z8 [])
theorem vt (fl : LF) (fs : LM (List V)) : zr fl fs st = jd (fs st) (callK fl) := rfl
theorem ze5 (fl : LF) (args : List V) : callK fl args s = callL (fl args s.g) s := rfl
theorem u6 (v : V) (g' : List LObj) : callL (some (v,g')) s = some (v,⟨s.loc,g'⟩) := rfl
theorem u7 : callL none s = none := rfl
noncomputable def methK (k : List LObj→V→Bool) (fl : LF) (fs : LM (List V)) (v : V) : LM V := q5 k fl (z8 v) fs
noncomputable def methK2 (fl : LF) (v : V) (args : List V) : LM V := q5 (fun _ _ => true) fl (z8 v) (z8 args)
noncomputable def methL (x : Option (V × List LObj)) : LM V := q5 (fun _ _ => true) (fun _ _ => x) (z8 .none) (z8 [])
theorem wm (k : List LObj→V→Bool) (fl : LF) (f : LM V) (fs : LM (List V)) : q5 k fl f fs st = jd (f st) (methK k fl fs) := rfl
theorem zei (k : List LObj→V→Bool) (fl : LF) (fs : LM (List V)) (v : V) : methK k fl fs v s = if k s.g v then jd (fs s) (methK2 fl v) else none := rfl
theorem zbz (fl : LF) (v : V) (args : List V) : methK2 fl v args s = methL (fl (v :: args) s.g) s := rfl
theorem ut (v : V) (g' : List LObj) : methL (some (v,g')) s = some (v,⟨s.loc,g'⟩) := rfl
theorem uu : methL none s = none := rfl
noncomputable def setK (h k : LM V) (v : V) : LM Fl := setS (z8 v) h k
noncomputable def setK2 (k : LM V) (v o : V) : LM Fl := setS (z8 v) (z8 o) k
noncomputable def setK3 (v o i : V) : LM Fl := setS (z8 v) (z8 o) (z8 i)
noncomputable def setX (x : Option (List LObj)) : LM Fl := fun s => x.elim none fun g' => some (.next,⟨s.loc,g'⟩)
theorem setS_ap (f h k : LM V) : setS f h k st = jd (f st) (setK h k) := rfl
theorem zha (h k : LM V) (v : V) : setK h k v s = jd (h s) (setK2 k v) := rfl
theorem zd9 (k : LM V) (v o : V) : setK2 k v o s = jd (k s) (setK3 v o) := rfl
theorem zd8 (v o i : V) : setK3 v o i s = setX (setV s.g o i v) s := by
  show (match setV s.g o i v with | some g' => _ | none => _) = _
  cases setV s.g o i v <;> rfl
theorem zbl (g' : List LObj) : setX (some g') s = some (.next,⟨s.loc,g'⟩) := rfl
theorem zbm : setX none s = none := rfl
noncomputable def setAK (k : LM V) (v o : V) : LM Unit := setA (z8 o) k v
noncomputable def setAK2 (v o i : V) : LM Unit := setA (z8 o) (z8 i) v
noncomputable def setAX (x : Option (List LObj)) : LM Unit := fun s => x.elim none fun g' => some ((),⟨s.loc,g'⟩)
theorem setA_ap (h k : LM V) (v : V) : setA h k v st = jd (h st) (setAK k v) := rfl
theorem zea (k : LM V) (v o : V) : setAK k v o s = jd (k s) (setAK2 v o) := rfl
theorem zbn (v o i : V) : setAK2 v o i s = setAX (setV s.g o i v) s := by
  show (match setV s.g o i v with | some g' => _ | none => _) = _
  cases setV s.g o i v <;> rfl
theorem uo (g' : List LObj) : setAX (some g') s = some ((),⟨s.loc,g'⟩) := rfl
theorem uq : setAX none s = none := rfl
noncomputable def unpK2 (_ : Unit) : LM Fl := zm
noncomputable def unpK (fs : List (V→LM Unit)) (v : V) : LM Fl := zfk fs (z8 v)
theorem zj2 (fs : List (V→LM Unit)) (f : LM V) : zfk fs f st = jd (f st) (unpK fs) := rfl
theorem zgv (fs : List (V→LM Unit)) (v : V) : unpK fs v s = jd (unpA fs v s) unpK2 := rfl
theorem zd1 (u : Unit) : unpK2 u s = some (.next,s) := rfl
theorem zj3 (fs : List (V→LM Unit)) (vs : List V) : unpA fs (.tup vs) st = xy fs vs st := rfl
theorem zcn : xy [] [] st = some ((),st) := rfl
theorem zas (f : V→LM Unit) (fs : List (V→LM Unit)) (v : V) (vs : List V) : xy (f :: fs) (v :: vs) st = jd (f v st) (fun _ => xy fs vs) := rfl
noncomputable def zh6 (b : Bool) : LM Fl := zcm (z8 b)
theorem zjq (t : LM Bool) : zcm t st = jd (t st) zh6 := rfl
theorem xx : zh6 true s = some (.next,s) := rfl
theorem wy : zh6 false s = none := rfl
theorem failL_ap : (kj : LM α) st = none := rfl
end
end Mine
end
local macro_rules | `(tactic| simp? only [$ls,*] $[$loc]?) => `(tactic| simp only [$(Mine.smp "vp zq qv zkp wv jz zcq orT_ap notT_ap boolE_ap jp chnT_ap zkb ww unE_ap zlp unG_ap zet qn yy qb zj ze7 za7 j9 jw zka zen vt wm setS_ap setA_ap zj2 zj3 zcn zas zjq failL_ap zj ze7 za7 u9 zaa zbw zbx zbo zec zbp zeb zh7 zhc ze0 zb3 uy zcr zae zeg zbv zhg ze8 zh0 ze3 zh2 ze4 u5 yr zg0 zh3 ze9 zj4 zfa zci zab zac zgw zbg zbh zes zb2 ze2 zcd zgz zhl ze5 u6 u7 zei zbz ut uu zha zd9 zd8 zbl zbm zea zbn uo uq zgv zd1 xx wy zzs zzz zts ztz" ls.getElems),*] $[$loc]?)
local macro_rules | `(tactic| dsimp? only [$ls,*] $[$loc]?) => `(tactic| simp only [$(Mine.smp "zj ze7 za7 u9 zaa zbw zbx zbo zec zbp zeb zh7 zhc ze0 zb3 uy zcr zae zeg zbv zhg ze8 zh0 ze3 zh2 ze4 u5 yr zg0 zh3 ze9 zj4 zfa zci zab zac zgw zbg zbh zes zb2 ze2 zcd zgz zhl ze5 u6 u7 zei zbz ut uu zha zd9 zd8 zbl zbm zea zbn uo uq zgv zd1 xx wy" ls.getElems),*] $[$loc]?)
section
namespace Mine
open PySem PyProof.Rows
section
variable {α β : Type} (st : St)
theorem zfi (n : Nat) (t : LM Bool) (f : LM Fl) : jq (n + 1) t f st = match t st with | some (true,s) => (match f s with | some (.next,s') => jq n t f s' | some (.cont,s') => jq n t f s' | some (.brk,s') => some (.next,s') | some (.ret v,s') => some (.ret v,s') | none => none) | some (false,s) => some (.next,s) | none => none := by
  conv => lhs; unfold jq zw
  cases t st with
  | none => rfl
  | some p =>
    obtain ⟨b,s⟩ := p
    cases b with
    | false => rfl
    | true =>
      simp only [if_true]
      cases f s with
      | none => rfl
      | some q => obtain ⟨fl,s'⟩ := q; cases fl <;> rfl
theorem jv (n : Nat) (src : Src) (j : Nat) (body : V→LM Fl) : zaz (n + 1) src j body st = match src.get st.g j with | some (some v) => (match body v st with | some (.next,s') => zaz n src (j + 1) body s' | some (.cont,s') => zaz n src (j + 1) body s' | some (.brk,s') => some (.next,s') | some (.ret v,s') => some (.ret v,s') | none => none) | some none => some (.next,st) | none => none := by
  conv => lhs; unfold zaz zw
  cases src.get st.g j with
  | none => rfl
  | some o => cases o with
    | none => rfl
    | some v =>
      simp only
      cases body v st with
      | none => rfl
      | some q => obtain ⟨fl,s'⟩ := q; cases fl <;> rfl
theorem zhv (n : Nat) (f : LM V) (asg : V→LM Unit) (body : LM Fl) : forS n f asg body st = match f st with | some (v,s) => (match vu s.g v with | some src => zaz n src 0 (fun x => zw (asg x) fun _ => body) s | none => none) | none => none := by
  unfold forS zw
  cases f st <;> first | rfl | (simp only; split <;> simp_all)
theorem runF_ap (k n : Nat) (extra : List V) (body : LM Fl) (args : List V) (g : List LObj) : runF k n extra body args g = if args.length = n then
    match body ⟨(args++extra).map some++List.replicate (k - n - extra.length) none,g⟩ with
    | some (.ret v,st) => some (v,st.g)
    | some (.next,st) => some (.none,st.g)
    | _ => none
  else none := rfl
end
end Mine
end
section
namespace Mine
open PySem PyProof.Rows
theorem xj {k n : Nat} {extra : List V} {body : LM Fl} {args : List V} {g : List LObj} {st : St} (loc0 : List (Option V)) (hn : args.length = n) (h0 : (args++extra).map some++List.replicate (k - n - extra.length) none = loc0) (h : body ⟨loc0,g⟩ = some (.next,st)) : runF k n extra body args g = some (.none,st.g) := by
  unfold runF; rw [if_pos hn,h0,h]
theorem qm {k n : Nat} {extra : List V} {body : LM Fl} {args : List V} {g : List LObj} {v : V} {st : St} (loc0 : List (Option V)) (hn : args.length = n) (h0 : (args++extra).map some++List.replicate (k - n - extra.length) none = loc0) (h : body ⟨loc0,g⟩ = some (.ret v,st)) : runF k n extra body args g = some (v,st.g) := by
  unfold runF; rw [if_pos hn,h0,h]
noncomputable def it (x : T3) : V := .tup [.int x.1,.int x.2.1,.int x.2.2]
set_option tactic.hygienic true in
theorem zdp (g : List LObj) (x y : T3) : ltV g (it x) (it y) = some (lt3 x y) := by
  obtain ⟨a,b,c⟩ := x; obtain ⟨d,e,f⟩ := y
  simp only [it,ltV,v8,Option.map_some,lexB,lt3]
  congr 1
  split
  · split
    · split
      · rename_i h; simp [h]
      · rfl
    · rfl
  · rfl
theorem ltI_t {g : List LObj} {a b : Int} (h : a < b) : ltV g (.int a) (.int b) = some true := by unfold ltV; simp [h]
theorem ltI_f {g : List LObj} {a b : Int} (h : ¬ a < b) : ltV g (.int a) (.int b) = some false := by unfold ltV; simp [h]
theorem zhm {g : List LObj} {a b : Int} (h : a≤b) : leV g (.int a) (.int b) = some true := by unfold leV; simp [h]
theorem zhn {g : List LObj} {a b : Int} (h : ¬ a≤b) : leV g (.int a) (.int b) = some false := by unfold leV; simp [h]
theorem gtI_t {g : List LObj} {a b : Int} (h : b < a) : gtV g (.int a) (.int b) = some true := by unfold gtV; simp [h]
theorem gtI_f {g : List LObj} {a b : Int} (h : ¬ b < a) : gtV g (.int a) (.int b) = some false := by unfold gtV; simp [h]
theorem setset (g : List LObj) (a : Nat) (x y : LObj) : (g.set a x).set a y = g.set a y := by simp
theorem getS {g : List LObj} {a : Nat} {o : LObj} (h : g[a]? = some o) (o' : LObj) : (g.set a o')[a]? = some o' := List.getElem?_set_self (List.getElem?_eq_some_iff.mp h).1
theorem xi {α : Type} {g : List α} {a : Nat} {o : α} (h : g[a]? = some o) : g.set a o = g := by
  obtain ⟨hlt,rfl⟩ := List.getElem?_eq_some_iff.mp h
  exact List.set_getElem_self hlt
theorem ux {g : List LObj} {a : Nat} {zs : List T3} (h : g[a]? = some (.lst (zs.map it))) (hz : zs.length≤szL) {i : Nat} (hi : i < zs.length) : jg g (.ref a) (.int (i : Int)) = some (it (at3 zs i)) := by
  unfold jg
  simp only [h,List.length_map]
  rw [if_pos hz,if_pos (Int.natCast_nonneg i),Int.toNat_natCast,List.getElem?_map,uh hi]; rfl
theorem setL {g : List LObj} {a : Nat} {zs : List T3} (h : g[a]? = some (.lst (zs.map it))) (hz : zs.length≤szL) {i : Nat} (hi : i < zs.length) (v : T3) : setV g (.ref a) (.int (i : Int)) (it v) = some (g.set a (.lst ((zs.set i v).map it))) := by
  unfold setV
  simp only [h,List.length_map]
  rw [if_pos ⟨Int.natCast_nonneg i,by exact o48 hi,hz⟩,Int.toNat_natCast,List.map_set]
theorem lenL {g : List LObj} {a : Nat} {zs : List T3} (h : g[a]? = some (.lst (zs.map it))) (hz : zs.length≤szL) : lenF [.ref a] g = some (.int (zs.length : Int),g) := by
  unfold lenF; simp only [h,List.length_map]; rw [if_pos hz]
theorem shr1 (p : Nat) (h : 0 < p) : shrV (.int ((p : Int) - 1)) (.int 1) = some (.int (((p - 1) / 2 : Nat) : Int)) := by
  unfold shrV
  simp only
  rw [if_pos (by decide)]
  have : ((p : Int) - 1) = ((p - 1 : Nat) : Int) := by exact o49 h
  rw [this]; rfl
theorem zak (n : Nat) (g : List LObj) (a : Nat) (xs : List T3) (pos : Nat) (hg : g[a]? = some (.lst (xs.map it))) (hz : xs.length≤szL) (hpos : pos < xs.length) (hHE : HE xs pos) (hn : pos < n) :
    ∃ ys,kd n [.ref a,.int 0,.int (pos : Int)] g = some (.none,g.set a (.lst (ys.map it)))∧ys.Perm xs∧IsHeap ys := by
  let new := at3 xs pos
  let P : St→Prop := fun st => ∃ (zs : List T3) (p : Nat) (x4 x5 : Option V),st = ⟨[some (.ref a),some (.int 0),some (.int (p : Int)),some (it new),x4,x5],g.set a (.lst (zs.map it))⟩∧zs.length = xs.length∧p < xs.length∧(zs.set p new).Perm xs∧HE (zs.set p new) p
  let Q : St→Prop := fun st => ∃ (zs : List T3) (p : Nat) (x4 x5 : Option V),st = ⟨[some (.ref a),some (.int 0),some (.int (p : Int)),some (it new),x4,x5],g.set a (.lst (zs.map it))⟩∧zs.length = xs.length∧p < xs.length∧(zs.set p new).Perm xs∧IsHeap (zs.set p new)
  let μ : St→Nat := fun st => match st.loc[2]? with
    | some (some (V.int i)) => i.toNat
    | _ => 0
  have loop := v3 (t := cmpT gtV (ldE 2) (ldE 1)) (f := (seqS (asgS 4 (binE shrV (binE subV (ldE 2) (zd (.int 1))) (zd (.int 1))))
    (seqS (asgS 5 (zu (ldE 0) (ldE 4)))
    (seqS (iteL (cmpT ltV (ldE 3) (ldE 5))
      (seqS (setS (ldE 5) (ldE 0) (ldE 2)) (seqS (asgS 2 (ldE 4)) (seqS za0 zm)))
      zm)
    (seqS brkS zm))))) (P := P) (Q := Q) (μ := μ) ?_ n ⟨[some (.ref a),some (.int 0),some (.int (pos : Int)),some (it new),none,none],g⟩ ?_ ?_
  · obtain ⟨st',e,zs,p,x4,x5,rfl,hl,hp,hperm,hheap⟩ := loop
    refine ⟨zs.set p new,?_,hperm,hheap⟩
    have h0 := ux hg hz hpos
    have h1 := setL (getS hg (.lst (zs.map it))) (o50 hz hl) (i := p) (o51 hl hp) new
    rw [setset] at h1
    refine xj (st := ⟨[some (.ref a),some (.int 0),some (.int (p : Int)),some (it new),x4,x5],_⟩) _ rfl rfl ?_
    simp only [zdi,List.length_cons,List.length_nil,List.append_nil,List.map_cons,List.map_nil,Nat.reduceAdd,Nat.reduceSub,List.replicate,List.cons_append,List.nil_append]
    simp? only [h0]
    rw [show it (at3 xs pos) = it new from rfl,e]
    simp? only [h1]
  · rintro st hx0; obtain ⟨zs,p,x4,x5,rfl,hl,hp,hperm,hHE'⟩ := hx0
    by_cases q : 0 < p
    · have hp2 : (p - 1) / 2 < p := by exact o52 q
      have i1 := ux (getS hg (.lst (zs.map it))) (o50 hz hl) (i := (p - 1) / 2) (o53 hl hp hp2)
      have hpar : at3 (zs.set p new) ((p - 1) / 2) = at3 zs ((p - 1) / 2) := yj (o54 hp2)
      have hself : at3 (zs.set p new) p = new := yc (o51 hl hp)
      have s1 := setL (getS hg (.lst (zs.map it))) (o50 hz hl) (i := p) (o51 hl hp) (at3 zs ((p - 1) / 2))
      rw [setset] at s1
      cases hlt : lt3 new (at3 zs ((p - 1) / 2)) with
      | true =>
        left
        refine ⟨⟨[some (.ref a),some (.int 0),some (.int (p : Int)),some (it new),x4,x5],g.set a (.lst (zs.map it))⟩,⟨[some (.ref a),some (.int 0),some (.int (((p - 1) / 2 : Nat) : Int)),some (it new),some (.int (((p - 1) / 2 : Nat) : Int)),some (it (at3 zs ((p - 1) / 2)))],g.set a (.lst ((zs.set p (at3 zs ((p - 1) / 2))).map it))⟩,?_,.inr ?_,?_,?_⟩
        · simp? only [gtV]; rw [decide_eq_true (o55 q)]
        · simp? only [subV,shr1 p q,i1,zdp,hlt,s1]
        · refine ⟨zs.set p (at3 zs ((p - 1) / 2)),(p - 1) / 2,_,_,rfl,by simpa using hl,by exact o56 hl hp hp2,?_,?_⟩
          · have := zfm (zs.set p new) (i := p) (j := (p - 1) / 2) (by simp; exact o51 hl hp) (by simp; exact o53 hl hp hp2)
            rw [hpar,hself,List.set_set] at this
            exact this.trans hperm
          · have := hHE'.step q (by simp; exact o51 hl hp) (by rw [hself,hpar]; exact hlt)
            rw [hpar,hself,List.set_set] at this
            exact this
        · show (((p - 1) / 2 : Nat) : Int).toNat < (p : Int).toNat
          exact o57 q hp2
      | false =>
        right; right
        refine ⟨⟨[some (.ref a),some (.int 0),some (.int (p : Int)),some (it new),x4,x5],g.set a (.lst (zs.map it))⟩,⟨[some (.ref a),some (.int 0),some (.int (p : Int)),some (it new),some (.int (((p - 1) / 2 : Nat) : Int)),some (it (at3 zs ((p - 1) / 2)))],g.set a (.lst (zs.map it))⟩,?_,?_,?_⟩
        · simp? only [gtV]; rw [decide_eq_true (o55 q)]
        · simp? only [subV,shr1 p q,i1,zdp,hlt]
        · exact ⟨zs,p,_,_,rfl,hl,hp,hperm,hHE'.stop (by rw [hself,hpar]; exact hlt)⟩
    · right; left
      have : p = 0 := by exact o58 q
      subst this
      refine ⟨⟨[some (.ref a),some (.int 0),some (.int ((0 : Nat) : Int)),some (it new),x4,x5],g.set a (.lst (zs.map it))⟩,by simp? only [gtV]; rw [decide_eq_false (by omega)],?_⟩
      exact ⟨zs,0,x4,x5,rfl,hl,hp,hperm,hHE'.stop0⟩
  · exact ⟨xs,pos,none,none,by rw [xi hg],rfl,hpos,by rw [xi (uh hpos)],by rw [xi (uh hpos)]; exact hHE⟩
  · show (pos : Int).toNat < n
    exact o59 hn
theorem zdh (n : Nat) (g : List LObj) (a : Nat) (xs : List T3) (hg : g[a]? = some (.lst (xs.map it))) (hz : xs.length≤szL) (hpos : 0 < xs.length) (hHU : HU xs 0) (hn : xs.length < n) :
    ∃ ys,vf n [.ref a,.int 0] g = some (.none,g.set a (.lst (ys.map it)))∧ys.Perm xs∧IsHeap ys := by
  let new := at3 xs 0
  let P : St→Prop := fun st => ∃ (zs : List T3) (p : Nat) (x6 : Option V),st = ⟨[some (.ref a),some (.int (p : Int)),some (.int (xs.length : Int)),some (.int 0),some (it new),some (.int (2 * (p : Int) + 1)),x6],g.set a (.lst (zs.map it))⟩∧zs.length = xs.length∧p < xs.length∧(zs.set p new).Perm xs∧HU (zs.set p new) p
  let Q : St→Prop := fun st => ∃ (zs : List T3) (p : Nat) (x5 x6 : Option V),st = ⟨[some (.ref a),some (.int (p : Int)),some (.int (xs.length : Int)),some (.int 0),some (it new),x5,x6],g.set a (.lst (zs.map it))⟩∧zs.length = xs.length∧p < xs.length∧(zs.set p new).Perm xs∧HE (zs.set p new) p
  let μ : St→Nat := fun st => match st.loc[1]? with
    | some (some (V.int i)) => xs.length - i.toNat
    | _ => 0
  have loop := v3 (t := cmpT ltV (ldE 5) (ldE 2)) (f := (seqS (asgS 6 (binE addV (ldE 5) (zd (.int 1)))) (seqS (iteL (andT (cmpT ltV (ldE 6) (ldE 2)) (notT (cmpT ltV (zu (ldE 0) (ldE 5)) (zu (ldE 0) (ldE 6))))) (seqS (asgS 5 (ldE 6)) zm) zm) (seqS (setS (zu (ldE 0) (ldE 5)) (ldE 0) (ldE 1)) (seqS (asgS 1 (ldE 5)) (seqS (asgS 5 (binE addV (binE mulV (zd (.int 2)) (ldE 1)) (zd (.int 1)))) zm)))))) (P := P) (Q := Q) (μ := μ) ?_ n ⟨[some (.ref a),some (.int 0),some (.int (xs.length : Int)),some (.int 0),some (it new),some (.int (2 * 0 + 1)),none],g⟩ ?_ ?_
  · obtain ⟨st',e,zs,p,x5,x6,rfl,hl,hp,hperm,hhe⟩ := loop
    have h0 := ux hg hz hpos
    have h1 := setL (getS hg (.lst (zs.map it))) (o50 hz hl) (i := p) (o51 hl hp) new
    rw [setset] at h1
    obtain ⟨ys,e2,p2,hp2⟩ := zak n (g.set a (.lst ((zs.set p new).map it))) a (zs.set p new) p (getS hg _) (by simp; exact o50 hz hl) (by simp; exact o51 hl hp) hhe (o60 hn hl hp)
    rw [setset] at e2
    refine ⟨ys,?_,p2.trans hperm,hp2⟩
    have hm : mulV (.int 2) (.int 0) = some (.int (2 * 0)) := by unfold mulV; simp only; rw [if_pos (by decide)]
    refine xj (st := ⟨[some (.ref a),some (.int (p : Int)),some (.int (xs.length : Int)),some (.int 0),some (it new),x5,x6],_⟩) _ rfl rfl ?_
    simp only [zie,List.length_cons,List.length_nil,List.append_nil,List.map_cons,List.map_nil,Nat.reduceAdd,Nat.reduceSub,List.replicate,List.cons_append,List.nil_append]
    simp? only [lenL hg hz,show jg g (.ref a) (.int 0) = some (it new) from h0,hm,addV]
    rw [e]
    simp? only [h1,e2]
  · rintro st hx0; obtain ⟨zs,p,x6,rfl,hl,hp,hperm,hHU'⟩ := hx0
    have hself : at3 (zs.set p new) p = new := yc (o51 hl hp)
    have hoth : ∀ j,p < j→at3 (zs.set p new) j = at3 zs j := fun j hj => yj (o61 hj)
    by_cases q : 2 * p + 1 < xs.length
    · left
      have i1 := ux (getS hg (.lst (zs.map it))) (o50 hz hl) (i := 2 * p + 1) (o62 hl q)
      -- the lesser child
      obtain ⟨c,hc,hcc,hch,ev⟩ : ∃ c : Nat,c < xs.length∧(0 < c∧(c - 1) / 2 = p)∧(∀ j,0 < j→j < xs.length→(j - 1) / 2 = p→le3 (at3 zs c) (at3 zs j)) ∧
          ∃ x6',(iteL (andT (cmpT ltV (ldE 6) (ldE 2)) (notT (cmpT ltV (zu (ldE 0) (ldE 5)) (zu (ldE 0) (ldE 6))))) (seqS (asgS 5 (ldE 6)) zm) zm) ⟨[some (.ref a),some (.int (p : Int)),some (.int (xs.length : Int)),some (.int 0),some (it new),some (.int ((2 * p + 1 : Nat) : Int)),some (.int ((2 * p + 2 : Nat) : Int))],g.set a (.lst (zs.map it))⟩ =
            some (.next,⟨[some (.ref a),some (.int (p : Int)),some (.int (xs.length : Int)),some (.int 0),some (it new),some (.int (c : Int)),x6'],g.set a (.lst (zs.map it))⟩) := by
        by_cases q2 : 2 * p + 2 < xs.length
        · have i2 := ux (getS hg (.lst (zs.map it))) (o50 hz hl) (i := 2 * p + 2) (o63 hl q2)
          cases hlt : lt3 (at3 zs (2 * p + 1)) (at3 zs (2 * p + 2)) with
          | true =>
            refine ⟨2 * p + 1,by exact o64 hl q2,⟨by exact o65,by exact o66⟩,fun j h0 hj hjp => ?_,some (.int ((2 * p + 2 : Nat) : Int)),?_⟩
            · have : j = 2 * p + 1∨j = 2 * p + 2 := by exact o67 h0 hjp
              rcases this with rfl | rfl
              · exact za4 _
              · exact zb1 hlt
            · simp? only [fun g => ltI_t (g := g) (show ((2 * p + 2 : Nat) : Int) < (xs.length : Int) by exact o68 hl q2),i1,i2,zdp,hlt,Bool.not_true,Bool.not_false]
          | false =>
            refine ⟨2 * p + 2,by exact o69 hl q2,⟨by exact o70,by exact o71⟩,fun j h0 hj hjp => ?_,some (.int ((2 * p + 2 : Nat) : Int)),?_⟩
            · have : j = 2 * p + 1∨j = 2 * p + 2 := by exact o67 h0 hjp
              rcases this with rfl | rfl
              · exact hlt
              · exact za4 _
            · simp? only [fun g => ltI_t (g := g) (show ((2 * p + 2 : Nat) : Int) < (xs.length : Int) by exact o68 hl q2),i1,i2,zdp,hlt,Bool.not_true,Bool.not_false]
        · refine ⟨2 * p + 1,by exact o72 hl q q2,⟨by exact o65,by exact o66⟩,fun j h0 hj hjp => ?_,some (.int ((2 * p + 2 : Nat) : Int)),?_⟩
          · have : j = 2 * p + 1 := by exact o73 hl q q2 h0 hj hjp
            subst this; exact za4 _
          · simp? only [fun g => ltI_f (g := g) (show ¬ ((2 * p + 2 : Nat) : Int) < (xs.length : Int) by exact o74 hl q q2)]
      obtain ⟨x6',ev⟩ := ev
      have ic := ux (getS hg (.lst (zs.map it))) (o50 hz hl) (i := c) (o51 hl hc)
      have s1 := setL (getS hg (.lst (zs.map it))) (o50 hz hl) (i := p) (o75 hl hp hcc) (at3 zs c)
      rw [setset] at s1
      refine ⟨⟨[some (.ref a),some (.int (p : Int)),some (.int (xs.length : Int)),some (.int 0),some (it new),some (.int (2 * (p : Int) + 1)),x6],g.set a (.lst (zs.map it))⟩,⟨[some (.ref a),some (.int (c : Int)),some (.int (xs.length : Int)),some (.int 0),some (it new),some (.int (2 * (c : Int) + 1)),x6'],g.set a (.lst ((zs.set p (at3 zs c)).map it))⟩,?_,.inl ?_,?_,?_⟩
      · simp? only [ltV]; rw [decide_eq_true (o76 hl q hcc)]
      · rw [zq,qv,ww]
        try dsimp? only [zj]
        dsimp? only [qn,qb,zzs,zzz,addV,zts,ztz]
        rw [zq,show (2 * (p : Int) + 1) = ((2 * p + 1 : Nat) : Int) by exact o77,show (((2 * p + 1 : Nat) : Int) + 1) = ((2 * p + 2 : Nat) : Int) by exact o78,ev]
        try dsimp? only [zj]
        have hm : mulV (.int 2) (.int (c : Int)) = some (.int (2 * (c : Int))) := by unfold mulV; simp only; rw [if_pos (by have : szL = 16777216 := rfl; exact o79 hz hpos hl hc hcc this)]
        simp? only [ic,s1,hm,addV]
      · refine ⟨zs.set p (at3 zs c),c,x6',rfl,by simpa using hl,hc,?_,?_⟩
        · have := zfm (zs.set p new) (i := p) (j := c) (by simp; exact o75 hl hp hcc) (by simp; exact o51 hl hc)
          rw [hoth c (o80 hcc),hself,List.set_set] at this
          exact this.trans hperm
        · have := hHU'.step (o := 0) (by simp; exact o75 hl hp hcc) (c := c) (by simp; exact o51 hl hc) hcc (fun j h0 hj hjp => by rw [hoth c (o81 hcc h0 hjp),hoth j (o82 hcc h0 hjp)]; exact hch j h0 (by simp at hj; exact o83 hl hj) hjp)
          rw [hoth c (o80 hcc),hself,List.set_set] at this
          exact this
      · show xs.length - (c : Int).toNat < xs.length - (p : Int).toNat
        exact o84 hl hp q hcc
    · right; left
      refine ⟨⟨[some (.ref a),some (.int (p : Int)),some (.int (xs.length : Int)),some (.int 0),some (it new),some (.int (2 * (p : Int) + 1)),x6],g.set a (.lst (zs.map it))⟩,by simp? only [ltV]; rw [decide_eq_false (o85 hl q)],?_⟩
      exact ⟨zs,p,_,x6,rfl,hl,hp,hperm,hHU'.leaf (by simp; exact o86 hl q)⟩
  · exact ⟨xs,0,none,by rw [xi hg]; rfl,rfl,hpos,by rw [xi (uh hpos)],by rw [xi (uh hpos)]; exact hHU⟩
  · show xs.length - (0 : Int).toNat < n
    exact o87 hpos hn
end Mine
end
section
namespace Mine
open PySem PyProof.Rows
theorem qy : szL = 16777216 := rfl
theorem zf5 (n : Nat) (g : List LObj) (a : Nat) (xs : List T3) (v : T3) (hg : g[a]? = some (.lst (xs.map it))) (hz : xs.length < szL) (hh : IsHeap xs) (hn : xs.length < n) :
    ∃ ys,ki n [.ref a,it v] g = some (.none,g.set a (.lst (ys.map it)))∧ys.Perm (xs++[v])∧IsHeap ys := by
  have hl : (xs++[v]).length = xs.length + 1 := by simp
  obtain ⟨ys,e,p,h⟩ := zak n (g.set a (.lst ((xs++[v]).map it))) a (xs++[v]) xs.length (getS hg _) (o88 hz hl) (o89 hl) (hh.snoc v) hn
  rw [setset] at e
  refine ⟨ys,?_,p,h⟩
  have ha : zt [.ref a,it v] g = some (.none,g.set a (.lst ((xs++[v]).map it))) := by
    unfold zt; simp only [hg]; rw [if_pos (by simp; exact o90 hz hl)]; simp
  have hlen := lenL (getS hg (.lst ((xs++[v]).map it))) (o88 hz hl)
  refine xj (st := ⟨[some (.ref a),some (it v)],_⟩) _ rfl rfl ?_
  simp only [zdr,List.length_cons,List.length_nil,List.append_nil,List.map_cons,List.map_nil,Nat.reduceAdd,Nat.reduceSub,List.replicate,List.cons_append,List.nil_append]
  simp? only [qf,hg,if_true,ha,hlen,subV]
  rw [show (((xs++[v]).length : Int) - 1) = (xs.length : Int) by exact o91 hl,e]
  rfl
theorem zhu (n : Nat) (g : List LObj) (a : Nat) (xs : List T3) (hg : g[a]? = some (.lst (xs.map it))) (hz : xs.length≤szL) (hh : IsHeap xs) (hne : 0 < xs.length) (hn : xs.length < n) :
    ∃ m ys,ky n [.ref a] g = some (it m,g.set a (.lst (ys.map it)))∧(m :: ys).Perm xs∧IsHeap ys∧∀ y ∈ ys,le3 m y := by
  have hpop : popF [.ref a] g = some (it (at3 xs (xs.length - 1)),g.set a (.lst ((xs.take (xs.length - 1)).map it))) := by
    unfold popF
    simp only [hg,List.length_map]
    rw [if_pos hz,List.getElem?_map,uh (o92 hne)]
    simp only [Option.map_some]
    congr 4
    rw [List.eraseIdx_eq_take_drop_succ,List.map_take,show xs.length - 1 + 1 = xs.length by exact o93 hne,List.drop_eq_nil_of_le (by simp),List.append_nil]
  have hgp := getS hg (.lst ((xs.take (xs.length - 1)).map it))
  have hlt : (xs.take (xs.length - 1)).length = xs.length - 1 := by simp
  by_cases q : xs.length = 1
  · obtain ⟨x,rfl⟩ : ∃ x,xs = [x] := by
      rcases xs with _ | ⟨x,_ | ⟨y,r⟩⟩
      · simp at q
      · exact ⟨x,rfl⟩
      · simp at q
    refine ⟨x,[],?_,.refl _,.nil,by simp⟩
    refine qm (st := ⟨[some (.ref a),some (it x),none],_⟩) _ rfl rfl ?_
    simp only [zb7,List.length_cons,List.length_nil,List.append_nil,List.map_cons,List.map_nil,Nat.reduceAdd,Nat.reduceSub,List.replicate,List.cons_append,List.nil_append]
    have hgp' : (g.set a (LObj.lst []))[a]? = some (.lst []) := hgp
    have hpop' : popF [.ref a] g = some (it x,g.set a (.lst [])) := hpop
    simp? only [qf,hg,if_true,hpop',truV,hgp',List.length_nil,Nat.zero_le,List.isEmpty_nil,Bool.not_true]
  · obtain ⟨x,mid,z,rfl⟩ : ∃ x mid z,xs = x :: (mid++[z]) := by
      rcases xs with _ | ⟨x,r⟩
      · simp at hne
      · have hr : r≠[] := by rintro rfl; simp at q
        exact ⟨x,r.dropLast,r.getLast hr,by rw [List.dropLast_concat_getLast]⟩
    have hlen : (x :: (mid++[z])).length = mid.length + 2 := by simp
    have htk : (x :: (mid++[z])).take ((x :: (mid++[z])).length - 1) = x :: mid := by
      rw [hlen,show mid.length + 2 - 1 = mid.length + 1 by exact o94,List.take_succ_cons]; simp
    have hlast : at3 (x :: (mid++[z])) ((x :: (mid++[z])).length - 1) = z := by
      rw [hlen,show mid.length + 2 - 1 = mid.length + 1 by exact o94]
      unfold at3; rw [List.getD_eq_getElem?_getD,zzs,List.getElem?_append_right (Nat.le_refl _)]; simp
    rw [htk] at hgp hpop
    rw [hlast] at hpop
    have hh1 : IsHeap (x :: mid) := by have := hh.dropLast ((x :: (mid++[z])).length - 1); rwa [htk] at this
    have hset := setL (zs := x :: mid) hgp (by simp at hz ⊢; exact o95 hz) (i := 0) (by simp) z
    rw [setset] at hset
    have hitem := ux (zs := x :: mid) hgp (by simp at hz ⊢; exact o95 hz) (i := 0) (by simp)
    obtain ⟨ys,e,p,h⟩ := zdh n (g.set a (.lst (((x :: mid).set 0 z).map it))) a ((x :: mid).set 0 z) (getS hg _) (by simp at hz ⊢; exact o95 hz) (by simp) (hh1.root z) (by simp at hn ⊢; exact o96 hn)
    rw [setset] at e
    refine ⟨x,ys,?_,(p.cons x).trans ?_,h,fun y hy => ?_⟩
    · refine qm (st := ⟨[some (.ref a),some (it z),some (it x)],_⟩) _ rfl rfl ?_
      simp only [zb7,List.length_cons,List.length_nil,List.append_nil,List.map_cons,List.map_nil,Nat.reduceAdd,Nat.reduceSub,List.replicate,List.cons_append,List.nil_append]
      have htru : truV (g.set a (.lst ((x :: mid).map it))) (.ref a) = some true := by
        unfold truV; simp only [hgp]; rw [if_pos (by simp at hz ⊢; exact o95 hz)]; simp
      simp? only [qf,hg,if_true,hpop,htru,show jg (g.set a (.lst ((x :: mid).map it))) (.ref a) (.int 0) = some (it x) from hitem,show setV (g.set a (.lst ((x :: mid).map it))) (.ref a) (.int 0) (it z) = some (g.set a (.lst ((z :: mid).map it))) from hset,show vf n [.ref a,.int 0] (g.set a (.lst ((z :: mid).map it))) = some (.none,g.set a (.lst (ys.map it))) from e]
    · show (x :: z :: mid).Perm (x :: (mid++[z]))
      exact (List.perm_append_singleton z mid).symm.cons x
    · have hmem : y ∈ (x :: mid).set 0 z := p.mem_iff.mp hy
      have : y ∈ x :: (mid++[z]) := by
        simp at hmem ⊢
        rcases hmem with rfl | hmem
        · exact .inr (.inr rfl)
        · exact .inr (.inl hmem)
      exact hh.min_mem this
theorem zb6 (n : Nat) (g : List LObj) (a : Nat) (xs : List T3) (v : T3) (hg : g[a]? = some (.lst (xs.map it))) (hz : xs.length≤szL) (hh : IsHeap xs) (hn : xs.length < n) :
    ∃ m ys,jc n [.ref a,it v] g = some (it m,g.set a (.lst (ys.map it)))∧(m :: ys).Perm (v :: xs)∧IsHeap ys∧∀ y ∈ ys,le3 m y := by
  rcases xs with _ | ⟨x,r⟩
  · refine ⟨v,[],?_,.refl _,.nil,by simp⟩
    have hg' : g[a]? = some (.lst []) := hg
    have htru : truV g (.ref a) = some false := by unfold truV; simp only [hg']; rfl
    rw [show g.set a (.lst (([] : List T3).map it)) = g from xi hg]
    refine qm (st := ⟨[some (.ref a),some (it v)],_⟩) _ rfl rfl ?_
    simp only [vg,List.length_cons,List.length_nil,List.append_nil,List.map_cons,List.map_nil,Nat.reduceAdd,Nat.reduceSub,List.replicate,List.cons_append,List.nil_append]
    simp? only [htru]
  · have htru : truV g (.ref a) = some true := by
      unfold truV; simp only [hg]; rw [if_pos (by simpa using hz)]; simp
    have hitem := ux hg hz (i := 0) (by simp)
    cases hlt : lt3 x v with
    | false =>
      refine ⟨v,x :: r,?_,.refl _,hh,fun y hy => y4 hlt (hh.min_mem hy)⟩
      rw [xi hg]
      refine qm (st := ⟨[some (.ref a),some (it v)],_⟩) _ rfl rfl ?_
      simp only [vg,List.length_cons,List.length_nil,List.append_nil,List.map_cons,List.map_nil,Nat.reduceAdd,Nat.reduceSub,List.replicate,List.cons_append,List.nil_append]
      simp? only [htru,show jg g (.ref a) (.int 0) = some (it x) from hitem,zdp,hlt]
    | true =>
      have hset := setL hg hz (i := 0) (by simp) v
      obtain ⟨ys,e,p,h⟩ := zdh n (g.set a (.lst (((x :: r).set 0 v).map it))) a ((x :: r).set 0 v) (getS hg _) (by simpa using hz) (by simp) (hh.root v) (by simpa using hn)
      rw [setset] at e
      refine ⟨x,ys,?_,(p.cons x).trans (List.Perm.swap v x r),h,fun y hy => ?_⟩
      · refine qm (st := ⟨[some (.ref a),some (it x)],_⟩) _ rfl rfl ?_
        simp only [vg,List.length_cons,List.length_nil,List.append_nil,List.map_cons,List.map_nil,Nat.reduceAdd,Nat.reduceSub,List.replicate,List.cons_append,List.nil_append]
        have h2 : (2 : Nat)≤szL := by decide
        simp? only [htru,show jg g (.ref a) (.int 0) = some (it x) from hitem,zdp,hlt,List.length_cons,List.length_nil,Nat.reduceAdd,h2,if_true,show setV g (.ref a) (.int 0) (it v) = some (g.set a (.lst ((v :: r).map it))) from hset,show vf n [.ref a,.int 0] (g.set a (.lst ((v :: r).map it))) = some (.none,g.set a (.lst (ys.map it))) from e]
      · have hmem : y ∈ (x :: r).set 0 v := p.mem_iff.mp hy
        simp at hmem
        rcases hmem with rfl | hmem
        · exact zb1 hlt
        · exact hh.min_mem (List.mem_cons_of_mem _ hmem)
end Mine
end
section
namespace Mine
open PySem PyProof.Rows
theorem zlo (x : Int) : Builtin.bitNot (Builtin.bitNot x) = x := by unfold Builtin.bitNot; exact o20
theorem zjp (x y : Nat) : Builtin.bitAnd (x : Int) (y : Int) = ((x &&& y : Nat) : Int) := by
  unfold Builtin.bitAnd
  rw [decide_eq_true (Int.natCast_nonneg x),decide_eq_true (Int.natCast_nonneg y)]
  simp
theorem zln (x y : Nat) : Builtin.bitOr (x : Int) (y : Int) = ((x ||| y : Nat) : Int) := by
  unfold Builtin.bitOr
  have h1 : ∀ x : Nat,¬ (0 : Int)≤Builtin.bitNot (x : Int) := fun x => by unfold Builtin.bitNot; exact o21
  unfold Builtin.bitAnd
  rw [decide_eq_false (h1 x),decide_eq_false (h1 y)]
  simp [zlo]
theorem zbb (x k M : Nat) (m : Int) (hM : M = 2 ^ k) (hm : m = ((M - 1 : Nat) : Int)) : Builtin.bitAnd (x : Int) m = ((x % M : Nat) : Int) := by
  rw [hm,zjp,hM,Nat.and_two_pow_sub_one_eq_mod]
theorem zef (x y k M : Nat) (hM : M = 2 ^ k) (h : y < M) : Builtin.bitOr ((x * M : Nat) : Int) (y : Int) = ((x * M + y : Nat) : Int) := by
  rw [zln]
  congr 1
  rw [hM] at h ⊢
  have := Nat.shiftLeft_add_eq_or_of_lt h x
  rw [Nat.shiftLeft_eq] at this
  exact this.symm
theorem zg8 (x k M : Nat) (b : Int) (hb : b = (k : Int)) (hk : k≤64) (hM : M = 2 ^ k) (hx : x < 65536) : shlV (.int (x : Int)) (.int b) = some (.int ((x * M : Nat) : Int)) := by
  subst hb
  unfold shlV
  simp only
  rw [if_pos ⟨by exact o22 hk,by exact o23 hk,by exact o24 hx,by exact o25 hx⟩,Int.toNat_natCast,hM]
  push_cast; rfl
theorem zkm (x k M : Nat) (b : Int) (hb : b = (k : Int)) (hk : k≤64) (hM : M = 2 ^ k) : shrV (.int (x : Int)) (.int b) = some (.int ((x / M : Nat) : Int)) := by
  subst hb
  unfold shrV
  simp only
  rw [if_pos ⟨by exact o22 hk,by exact o23 hk⟩,Int.toNat_natCast,hM]
  push_cast; rfl
noncomputable def e64 (k : Nat) : UInt8 := B64L.getD k 0
theorem item64 (k : Nat) (h : k < 64) (g : List LObj) : jg g (.bytes B64L) (.int (k : Int)) = some (.int ((e64 k).toNat : Int)) := by
  have hl : B64L.length = 64 := rfl
  unfold jg
  simp only
  rw [if_pos ⟨by exact o26 h,by rw [hl]; decide⟩]
  rw [Int.toNat_natCast,List.getElem?_eq_getElem (o27 h hl)]
  unfold e64
  rw [List.getD_eq_getElem?_getD,List.getElem?_eq_getElem (o27 h hl)]
  rfl
theorem ev_shift (d0 d1 d2 d3 d4 : Option V) (left v : Nat) (g : List LObj) (hl : left < 65536) (hv : v < 256) :
    (binE andV (binE orV (binE shlV (ldE 5) (zd (.int 8))) (ldE 6)) (zd (.int 65535))) ⟨[d0,d1,d2,d3,d4,some (.int (left : Int)),some (.int (v : Int))],g⟩ =
      some (.int (((left * 256 + v) % 65536 : Nat) : Int),⟨[d0,d1,d2,d3,d4,some (.int (left : Int)),some (.int (v : Int))],g⟩) := by
  have e1 := zg8 left 8 256 8 rfl (o28) (by decide) hl
  have e2 := zef left v 8 256 (by decide) hv
  have e3 := zbb (left * 256 + v) 16 65536 65535 (by decide) (by decide)
  dsimp? only [ww,qn,qb,zzs,zzz,e1,orV,e2,andV,e3]
theorem ev_pick (d0 d1 d2 d3 d6 : Option V) (left k M : Nat) (bits : Int) (hb : bits = (k : Int) + 6) (hk : k≤64) (hM : M = 2 ^ k) (g : List LObj) :
    (zu (zd (.bytes B64L)) (binE andV (binE shrV (ldE 5) (binE subV (ldE 4) (zd (.int 6)))) (zd (.int 63)))) ⟨[d0,d1,d2,d3,some (.int bits),some (.int (left : Int)),d6],g⟩ =
      some (.int ((e64 (left / M % 64)).toNat : Int),⟨[d0,d1,d2,d3,some (.int bits),some (.int (left : Int)),d6],g⟩) := by
  have e1 := zkm left k M (bits - 6) (o29 hb) hk hM
  have e3 := zbb (left / M) 6 64 63 (by decide) (by decide)
  have e4 := item64 (left / M % 64) (Nat.mod_lt _ (by decide)) g
  dsimp? only [zet,ww,qn,qb,zzs,zzz,subV,e1,andV,e3,e4]
noncomputable abbrev wB : LM Fl := (seqS (ja (q5 qf zt (ldE 3) (zl (zu (zd (.bytes B64L)) (binE andV (binE shrV (ldE 5) (binE subV (ldE 4) (zd (.int 6)))) (zd (.int 63)))) nilL))) (seqS (asgS 4 (binE subV (ldE 4) (zd (.int 6)))) zm))
noncomputable abbrev fB (n : Nat) : LM Fl := (seqS (asgS 5 (binE andV (binE orV (binE shlV (ldE 5) (zd (.int 8))) (ldE 6)) (zd (.int 65535)))) (seqS (asgS 4 (binE addV (ldE 4) (zd (.int 8)))) (seqS (jq n (cmpT geV (ldE 4) (zd (.int 6))) wB) zm)))
theorem geI_t {g : List LObj} {a b : Int} (h : b≤a) : geV g (.int a) (.int b) = some true := by unfold geV; simp [h]
theorem geI_f {g : List LObj} {a b : Int} (h : ¬ b≤a) : geV g (.int a) (.int b) = some false := by unfold geV; simp [h]
theorem appA0 {g : List LObj} {o : List V} (v : V) (h : o.length < 1000) : zt [.ref g.length,v] (g++[.lst o]) = some (.none,g++[.lst (o++[v])]) := by
  simp only [zt,jm,zzz,setA0,ztz]
  rw [if_pos (by have : szL = 16777216 := rfl; exact o30 h this)]
theorem zd0 (m k M left : Nat) (hk : k≤64) (hM : M = 2 ^ k) (d0 d1 d2 d6 : Option V) (g : List LObj) (o : List V) (ho : o.length < 1000) :
    jq (m + 1) (cmpT geV (ldE 4) (zd (.int 6))) wB ⟨[d0,d1,d2,some (.ref g.length),some (.int ((k : Int) + 6)),some (.int (left : Int)),d6],g++[.lst o]⟩ =
      jq m (cmpT geV (ldE 4) (zd (.int 6))) wB ⟨[d0,d1,d2,some (.ref g.length),some (.int (k : Int)),some (.int (left : Int)),d6],g++[.lst (o++[.int ((e64 (left / M % 64)).toNat : Int)])]⟩ := by
  have e1 : cmpT geV (ldE 4) (zd (.int 6)) ⟨[d0,d1,d2,some (.ref g.length),some (.int ((k : Int) + 6)),some (.int (left : Int)),d6],g++[.lst o]⟩ = some (true,⟨[d0,d1,d2,some (.ref g.length),some (.int ((k : Int) + 6)),some (.int (left : Int)),d6],g++[.lst o]⟩) := by
    simp? only [geI_t (show (6 : Int)≤(k : Int) + 6 by exact o31 hk)]
  have e2 := ev_pick d0 d1 d2 (some (.ref g.length)) d6 left k M ((k : Int) + 6) rfl hk hM (g++[.lst o])
  have e3 : qf (g++[.lst o]) (.ref g.length) = true := by simp only [qf,jm,zzz]
  have e4 : wB ⟨[d0,d1,d2,some (.ref g.length),some (.int ((k : Int) + 6)),some (.int (left : Int)),d6],g++[.lst o]⟩ = some (.next,⟨[d0,d1,d2,some (.ref g.length),some (.int (k : Int)),some (.int (left : Int)),d6],g++[.lst (o++[.int ((e64 (left / M % 64)).toNat : Int)])]⟩) := by
    unfold wB
    rw [zq,wv,wm]
    try dsimp? only [zj]
    dsimp? only [qn,zzs,zzz,e3,if_true]
    rw [jw,e2]
    try dsimp? only [zj]
    simp? only [appA0 _ ho,subV]
    rw [show (k : Int) + 6 - 6 = (k : Int) by exact o32]
  rw [zfi,e1]
  try dsimp? only [zj]
  simp only [e4]
theorem zjz (m : Nat) (bits : Int) (hb : bits < 6) (d0 d1 d2 d3 d5 d6 : Option V) (g : List LObj) :
    jq (m + 1) (cmpT geV (ldE 4) (zd (.int 6))) wB ⟨[d0,d1,d2,d3,some (.int bits),d5,d6],g⟩ = some (.next,⟨[d0,d1,d2,d3,some (.int bits),d5,d6],g⟩) := by
  rw [zfi]
  try dsimp? only [zj]
  simp? only [geI_f (show ¬ (6 : Int)≤bits by exact o33 hb)]
theorem zhx (n : Nat) (left v : Nat) (hl : left < 65536) (hv : v < 256) (bits : Int) (d0 d1 d2 d3 x : Option V) (g : List LObj) : zw (stS 6 (.int (v : Int))) (fun _ => fB n) ⟨[d0,d1,d2,d3,some (.int bits),some (.int (left : Int)),x],g⟩ =
    jd (jq n (cmpT geV (ldE 4) (zd (.int 6))) wB ⟨[d0,d1,d2,d3,some (.int (bits + 8)),some (.int (((left * 256 + v) % 65536 : Nat) : Int)),some (.int (v : Int))],g⟩) (seqK zm) := by
  rw [vp,yy]
  try dsimp? only [zj]
  simp only [zts,ztz]
  unfold fB
  rw [zq,qv,ev_shift d0 d1 d2 d3 (some (.int bits)) left v g hl hv]
  try dsimp? only [zj]
  simp only [zts,ztz]
  rw [zq,qv,ww]
  try dsimp? only [zj]
  dsimp? only [qn,qb,zzs,zzz,addV,zts,ztz]
  rw [zq]
theorem b2a_run (m a b c : Nat) (ha : a < 256) (hb : b < 256) (hc : c < 256) (g : List LObj) :
    ∃ junk,k9 (m + 5) [.bytes [a.toUInt8,b.toUInt8,c.toUInt8],.bool false] g = some (.bytes [e64 (a / 4),e64 (a % 4 * 16 + b / 16),e64 (b % 16 * 4 + c / 64),e64 (c % 64)],g++junk) := by
  have ua : a.toUInt8.toNat = a := UInt8.toNat_ofNat_of_lt' (by simpa using ha)
  have ub : b.toUInt8.toNat = b := UInt8.toNat_ofNat_of_lt' (by simpa using hb)
  have uc : c.toUInt8.toNat = c := UInt8.toNat_ofNat_of_lt' (by simpa using hc)
  refine ⟨[.lst [.int (e64 (a / 4)).toNat,.int (e64 (a % 4 * 16 + b / 16)).toNat,.int (e64 (b % 16 * 4 + c / 64)).toNat,.int (e64 (c % 64)).toNat]],?_⟩
  have t1 := zhx (m + 5) 0 a (o34) ha 0 (some (.bytes [a.toUInt8,b.toUInt8,c.toUInt8])) (some (.bool false)) (some (.bytes [a.toUInt8,b.toUInt8,c.toUInt8])) (some (.ref g.length)) none (g++[.lst []])
  have t2 := fun g x => zhx (m + 5) a b (o35 ha ua) hb 2 (some (.bytes [a.toUInt8,b.toUInt8,c.toUInt8])) (some (.bool false)) (some (.bytes [a.toUInt8,b.toUInt8,c.toUInt8])) x (some (.int (a : Int))) g
  have t3 := fun g x => zhx (m + 5) (a * 256 + b) c (o36 ha hb ua ub) hc 4 (some (.bytes [a.toUInt8,b.toUInt8,c.toUInt8])) (some (.bool false)) (some (.bytes [a.toUInt8,b.toUInt8,c.toUInt8])) x (some (.int (b : Int))) g
  rw [show (0 * 256 + a) % 65536 = a by exact o37 ha ua] at t1
  rw [show (a * 256 + b) % 65536 = a * 256 + b by exact o38 ha hb ua ub] at t2
  rw [show ((a * 256 + b) * 256 + c) % 65536 = b * 256 + c by exact o39 hb hc ua ub uc] at t3
  have u1 := fun d0 d1 d2 d6 => zd0 (m + 4) 2 4 a (o40) (by decide) d0 d1 d2 d6 g [] (by simp)
  have u2 := fun d0 d1 d2 d6 o ho => zd0 (m + 4) 4 16 (a * 256 + b) (o41) (by decide) d0 d1 d2 d6 g o ho
  have u3 := fun d0 d1 d2 d6 o ho => zd0 (m + 4) 6 64 (b * 256 + c) (o42) (by decide) d0 d1 d2 d6 g o ho
  have u4 := fun d0 d1 d2 d6 o ho => zd0 (m + 3) 0 1 (b * 256 + c) (o43) (by decide) d0 d1 d2 d6 g o ho
  rw [show a / 4 % 64 = a / 4 by exact o44 ha ua] at u1
  rw [show (a * 256 + b) / 16 % 64 = a % 4 * 16 + b / 16 by exact o45 hb ua ub] at u2
  rw [show (b * 256 + c) / 64 % 64 = b % 16 * 4 + c / 64 by exact o46 hc ub uc] at u3
  rw [show (b * 256 + c) / 1 % 64 = c % 64 by exact o47 ub uc] at u4
  refine qm (st := ⟨[some (.bytes [a.toUInt8,b.toUInt8,c.toUInt8]),some (.bool false),some (.bytes [a.toUInt8,b.toUInt8,c.toUInt8]),some (.ref g.length),some (.int 0),some (.int ((b * 256 + c : Nat) : Int)),some (.int (c : Int))],g++[.lst [.int (e64 (a / 4)).toNat,.int (e64 (a % 4 * 16 + b / 16)).toNat,.int (e64 (b % 16 * 4 + c / 64)).toNat,.int (e64 (c % 64)).toNat]]⟩) _ rfl rfl ?_
  simp only [zar,List.length_cons,List.length_nil,List.append_nil,List.map_cons,List.map_nil,Nat.reduceAdd,Nat.reduceSub,List.replicate,List.cons_append,List.nil_append]
  simp? only [zjo,zfl,List.length_nil,Nat.zero_le,if_true]
  have loop : forS (m + 5) (ldE 2) (stS 6) (fB (m + 5)) ⟨[some (.bytes [a.toUInt8,b.toUInt8,c.toUInt8]),some (.bool false),some (.bytes [a.toUInt8,b.toUInt8,c.toUInt8]),some (.ref g.length),some (.int 0),some (.int 0),none],g++[.lst []]⟩ =
      some (.next,⟨[some (.bytes [a.toUInt8,b.toUInt8,c.toUInt8]),some (.bool false),some (.bytes [a.toUInt8,b.toUInt8,c.toUInt8]),some (.ref g.length),some (.int 0),some (.int ((b * 256 + c : Nat) : Int)),some (.int (c : Int))],g++[.lst [.int (e64 (a / 4)).toNat,.int (e64 (a % 4 * 16 + b / 16)).toNat,.int (e64 (b % 16 * 4 + c / 64)).toNat,.int (e64 (c % 64)).toNat]]⟩) := by
    rw [zhv]
    try dsimp? only [zj]
    dsimp? only [qn,zzs,zzz,vu,List.map_cons,List.map_nil,ua,ub,uc]
    rw [jv]
    try dsimp? only [zj]
    simp only [Src.get,zzz]
    rw [show ((0 : Int)) = ((0 : Nat) : Int) from rfl] at t1 ⊢
    rw [t1]
    rw [show ((0 : Nat) : Int) + 8 = ((2 : Nat) : Int) + 6 from rfl,u1,zjz _ _ (by decide)]
    dsimp? only [List.nil_append]
    rw [jv]
    try dsimp? only [zj]
    simp only [Src.get,zzz,zzs]
    rw [show (((2 : Nat) : Int)) = 2 from rfl,t2]
    rw [show (2 : Int) + 8 = ((4 : Nat) : Int) + 6 from rfl,u2 _ _ _ _ _ (by simp),zjz _ _ (by decide)]
    dsimp? only [List.cons_append,List.nil_append]
    rw [jv]
    try dsimp? only [zj]
    simp only [Src.get,zzz,zzs]
    rw [show (((4 : Nat) : Int)) = 4 from rfl,t3]
    rw [show (4 : Int) + 8 = ((6 : Nat) : Int) + 6 from rfl,u3 _ _ _ _ _ (by simp)]
    rw [show ((6 : Nat) : Int) = ((0 : Nat) : Int) + 6 from rfl,u4 _ _ _ _ _ (by simp),zjz _ _ (by decide)]
    dsimp? only [List.cons_append,List.nil_append]
    rw [jv]
    try dsimp? only [zj]
    rfl
  have q2 : ∀ g : List LObj,eqV g (.int 0) (.int 2) = some false := fun g => rfl
  have q4 : ∀ g : List LObj,eqV g (.int 0) (.int 4) = some false := fun g => rfl
  have tf : ∀ g : List LObj,truV g (.bool false) = some false := fun g => rfl
  have hb : ∀ x : UInt8,(decide (0≤((x.toNat : Nat) : Int)) && decide (((x.toNat : Nat) : Int) < 256)) = true := fun x => by have := x.toNat_lt; simp; omega
  have fin : kz [.ref g.length] (g++[.lst [.int (e64 (a / 4)).toNat,.int (e64 (a % 4 * 16 + b / 16)).toNat,.int (e64 (b % 16 * 4 + c / 64)).toNat,.int (e64 (c % 64)).toNat]]) = some (.bytes [e64 (a / 4),e64 (a % 4 * 16 + b / 16),e64 (b % 16 * 4 + c / 64),e64 (c % 64)],g++[.lst [.int (e64 (a / 4)).toNat,.int (e64 (a % 4 * 16 + b / 16)).toNat,.int (e64 (b % 16 * 4 + c / 64)).toNat,.int (e64 (c % 64)).toNat]]) := by
    simp only [kz,jf,jm,zzz,List.length_cons,List.length_nil]
    rw [if_pos (by decide)]
    simp only [v8,Option.map_some,List.all_cons,List.all_nil,hb,Bool.and_self,if_true,List.map_cons,List.map_nil,Int.toNat_natCast]
    simp
  rw [loop]
  simp? only [q2,q4,tf,fin]
end Mine
end
section
namespace Mine
open PySem PyProof.Rows
section
variable (st : St)
theorem zba (c : Addr) (name : Str) (f : LM V) : wx c name f st = match f st with | some (v,s) => (match insOf s.g v with | some (c',_,kvs) => if c' = c then (ku name kvs).map fun w => (w,s) else none | none => none) | none => none := by
  unfold wx zw; cases f st <;> rfl
theorem zej (c : Addr) (name : Str) (fl : LF) (ob : LM V) (fs : LM (List V)) : vo c name fl ob fs st = match ob st with
    | some (v,s) => (match insOf s.g v with | some (c',_,kvs) => if c' = c∧(ku name kvs).isNone = true then (match fs s with | some (args,s') => (match fl (v :: args) s'.g with | some (r,g') => some (r,⟨s'.loc,g'⟩) | none => none) | none => none) else none | none => none) | none => none := by
  unfold vo zw
  cases ob st with
  | none => rfl
  | some p =>
    simp only
    cases insOf p.2.g p.1 with
    | none => rfl
    | some q =>
      simp only
      split
      · cases fs p.2 <;> rfl
      · rfl
theorem ziw (c : Nat) (loc : List (Option V)) (g : List LObj) : zlj c ⟨loc,g⟩ = match g[c]? with | some (.cell v) => some (v,⟨loc,g⟩) | _ => none := rfl
theorem zh5 {c : Addr} {name : Str} {o : V→V→Option V} {ob f : LM V} {st s s2 : St} {v old b w : V} {d d2 : Nat} {kvs kvs2 : List (Str × V)} (h1 : ob st = some (v,s)) (h2 : insOf s.g v = some (c,d,kvs)) (h3 : ku name kvs = some old) (h4 : f s = some (b,s2)) (h5 : o old b = some w) (h6 : insOf s2.g v = some (c,d2,kvs2)) (h7 : kvs2.length < 100) :
    ug c name o ob f st = some (.next,⟨s2.loc,s2.g.set d2 (.dic (putK name w kvs2))⟩) := by
  unfold ug
  rw [qp h1]
  simp only [h2,if_true,h3]
  rw [qp h4]
  simp only [h5,h6]
  rw [if_pos ⟨trivial,h7⟩]
end
structure LexI where
  li : Nat
  ld : Nat
  sm : Nat
  sd : Nat
  ri : Nat
  sc : Nat
  sg : Nat
  pb : Nat
noncomputable abbrev ji (I : LexI) (ln : Int) : List (Str × V) := [("lineno",.int ln),("instream",.ref I.sm),("whitespace",.str [10,9,13,32]),("pushback",.ref I.pb)]
noncomputable abbrev chs (cs : List Nat) : List V := cs.map fun c => .str [c]
structure LexAt (g : List LObj) (c : Addr) (I : LexI) (ln : Int) (cs : List Nat) (pb : List V) : Prop where
  ins : g[I.li]? = some (.ins c I.ld)
  dic : g[I.ld]? = some (.dic (ji I ln))
  stf : g[I.sm]? = some (.stf I.sd)
  sdic : g[I.sd]? = some (.dic [("read",.ref I.ri)])
  rdf : g[I.ri]? = some (.rdf rdD "signs" I.sc)
  cell : g[I.sc]? = some (.cell (.ref I.sg))
  sgl : g[I.sg]? = some (.lst (chs cs))
  pbl : g[I.pb]? = some (.lst pb)
  ne : I.sg≠I.pb
noncomputable def Keep (M : List Nat) (g g' : List LObj) : Prop := ∀ i o,i ∉ M→g[i]? = some o→g'[i]? = some o
theorem Keep.refl (M : List Nat) (g : List LObj) : Keep M g g := fun _ _ _ e => e
theorem Keep.trans {M : List Nat} {g g' g'' : List LObj} (h : Keep M g g') (h' : Keep M g' g'') : Keep M g g'' := fun i o hi e => h' i o hi (h i o hi e)
theorem Keep.mono {M M' : List Nat} {g g' : List LObj} (h : Keep M g g') (hM : ∀ i ∈ M,i ∈ M') : Keep M' g g' := fun i o hi e => h i o (fun q => hi (hM i q)) e
theorem Keep.app (M : List Nat) (g l : List LObj) : Keep M g (g++l) := fun _ _ _ e => qw e
theorem Keep.set {M : List Nat} {g : List LObj} {i : Nat} (h : i ∈ M) (o : LObj) : Keep M g (g.set i o) := fun j o' hj e => by
  rw [List.getElem?_set_ne (fun q => hj (by rw [← q]; exact h))]; exact e
theorem Keep.len {M : List Nat} {g g' : List LObj} (h : Keep M g g') (i : Nat) (hi : i < g.length) (hM : i ∉ M) : i < g'.length := by
  have := h i _ hM (List.getElem?_eq_getElem hi)
  exact (List.getElem?_eq_some_iff.mp this).1
variable {c : Addr} {I : LexI} {ln : Int} {cs r : List Nat} {pb : List V} {g : List LObj}
theorem LexAt.keep {g' : List LObj} (h : LexAt g c I ln cs pb) {M : List Nat} (k : Keep M g g') (hM : ∀ i ∈ M,g[i]? = none∨(i≠I.li∧i≠I.ld∧i≠I.sm∧i≠I.sd∧i≠I.ri∧i≠I.sc∧i≠I.sg∧i≠I.pb)) : LexAt g' c I ln cs pb := by
  have key : ∀ i o,g[i]? = some o→(i = I.li∨i = I.ld∨i = I.sm∨i = I.sd∨i = I.ri∨i = I.sc∨i = I.sg∨i = I.pb)→g'[i]? = some o := by
    intro i o e hi
    refine k i o (fun hm => ?_) e
    rcases hM i hm with q | q
    · rw [q] at e; injection e
    · exact o97 hi q
  exact ⟨key _ _ h.ins (o98),key _ _ h.dic (o99),key _ _ h.stf (o100),key _ _ h.sdic (o101),key _ _ h.rdf (o102),key _ _ h.cell (o103),key _ _ h.sgl (o104),key _ _ h.pbl (o105),h.ne⟩
theorem LexAt.app (h : LexAt g c I ln cs pb) (l : List LObj) : LexAt (g++l) c I ln cs pb := h.keep (Keep.app [] g l) (by simp)
theorem z4 {g : List LObj} {i j : Nat} {a b : LObj} (h1 : g[i]? = some a) (h2 : g[j]? = some b) (h : a≠b) : i≠j := fun e => by rw [e,h2] at h1; exact h (Option.some.inj h1).symm
theorem LexAt.setSg (h : LexAt g c I ln cs pb) (r : List Nat) : LexAt (g.set I.sg (.lst (chs r))) c I ln r pb := by
  have key : ∀ i o,g[i]? = some o→i≠I.sg→(g.set I.sg (.lst (chs r)))[i]? = some o := fun i o e hi => by rw [List.getElem?_set_ne (Ne.symm hi)]; exact e
  exact ⟨key _ _ h.ins (z4 h.ins h.sgl (by simp)),key _ _ h.dic (z4 h.dic h.sgl (by simp)),key _ _ h.stf (z4 h.stf h.sgl (by simp)),key _ _ h.sdic (z4 h.sdic h.sgl (by simp)),key _ _ h.rdf (z4 h.rdf h.sgl (by simp)),key _ _ h.cell (z4 h.cell h.sgl (by simp)),getS h.sgl _,key _ _ h.pbl (Ne.symm h.ne),h.ne⟩
theorem LexAt.setPb (h : LexAt g c I ln cs pb) (pb' : List V) : LexAt (g.set I.pb (.lst pb')) c I ln cs pb' := by
  have key : ∀ i o,g[i]? = some o→i≠I.pb→(g.set I.pb (.lst pb'))[i]? = some o := fun i o e hi => by rw [List.getElem?_set_ne (Ne.symm hi)]; exact e
  exact ⟨key _ _ h.ins (z4 h.ins h.pbl (by simp)),key _ _ h.dic (z4 h.dic h.pbl (by simp)),key _ _ h.stf (z4 h.stf h.pbl (by simp)),key _ _ h.sdic (z4 h.sdic h.pbl (by simp)),key _ _ h.rdf (z4 h.rdf h.pbl (by simp)),key _ _ h.cell (z4 h.cell h.pbl (by simp)),key _ _ h.sgl h.ne,getS h.pbl _,h.ne⟩
theorem LexAt.setLn (h : LexAt g c I ln cs pb) (ln' : Int) : LexAt (g.set I.ld (.dic (ji I ln'))) c I ln' cs pb := by
  have key : ∀ i o,g[i]? = some o→i≠I.ld→(g.set I.ld (.dic (ji I ln')))[i]? = some o := fun i o e hi => by rw [List.getElem?_set_ne (Ne.symm hi)]; exact e
  have hsd : I.sd≠I.ld := z4 h.sdic h.dic (fun e => by injection e with e; simp [ji] at e)
  exact ⟨key _ _ h.ins (z4 h.ins h.dic (by simp)),getS h.dic _,key _ _ h.stf (z4 h.stf h.dic (by simp)),key _ _ h.sdic hsd,key _ _ h.rdf (z4 h.rdf h.dic (by simp)),key _ _ h.cell (z4 h.cell h.dic (by simp)),key _ _ h.sgl (z4 h.sgl h.dic (by simp)),key _ _ h.pbl (z4 h.pbl h.dic (by simp)),h.ne⟩
theorem LexAt.insOf (h : LexAt g c I ln cs pb) : insOf g (.ref I.li) = some (c,I.ld,ji I ln) := by
  unfold Mine.insOf; simp only [h.ins,h.dic]
theorem LexAt.rdOf (h : LexAt g c I ln cs pb) : rdOf g (.ref I.sm) = some I.ri := by
  unfold Mine.rdOf; simp only [h.stf,h.sdic]; rfl
theorem zb0 (I : LexI) (ln : Int) : ku "lineno" (ji I ln) = some (.int ln) := rfl
theorem zeo (I : LexI) (ln : Int) : ku "instream" (ji I ln) = some (.ref I.sm) := rfl
theorem look_ws (I : LexI) (ln : Int) : ku "whitespace" (ji I ln) = some (.str [10,9,13,32]) := rfl
theorem look_pb (I : LexI) (ln : Int) : ku "pushback" (ji I ln) = some (.ref I.pb) := rfl
theorem zk0 (I : LexI) (ln : Int) : ku "_read_char" (ji I ln) = none := rfl
theorem look_gt (I : LexI) (ln : Int) : ku "get_token" (ji I ln) = none := rfl
theorem look_pt (I : LexI) (ln : Int) : ku "push_token" (ji I ln) = none := rfl
theorem put_ln (I : LexI) (ln ln' : Int) : putK "lineno" (.int ln') (ji I ln) = ji I ln' := rfl
theorem read_run (n : Nat) (h : LexAt g c I ln cs pb) (hz : cs.length≤1000000) (k : V) : ∃ g',zii n I.sc [k] g = some (.str (cs.take 1),g')∧LexAt g' c I ln cs.tail pb∧Keep [I.sg] g g' := by
  have h1 := h.app [LObj.lst []]
  cases cs with
  | nil =>
    refine ⟨g++[.lst []],?_,h1,Keep.app _ _ _⟩
    refine qm (st := ⟨[some k],g++[.lst []]⟩) _ rfl rfl ?_
    simp only [zkq,List.length_cons,List.length_nil,List.append_nil,List.map_cons,List.map_nil,Nat.reduceAdd,Nat.reduceSub,List.replicate,List.cons_append,List.nil_append]
    have hs : (g++[LObj.lst []])[I.sg]? = some (.lst []) := h1.sgl
    simp? only [ziw,h.cell,List.length_nil,Nat.zero_le,if_true,neV,eqV,zc1,hs,jm,eqIs,Option.map_some,Bool.not_true,List.take_nil]
  | cons ch r =>
    refine ⟨(g++[LObj.lst []]).set I.sg (.lst (chs r)),?_,h1.setSg r,(Keep.app _ _ _).trans (Keep.set (by simp) _)⟩
    refine qm (st := ⟨[some k],(g++[LObj.lst []]).set I.sg (.lst (chs r))⟩) _ rfl rfl ?_
    simp only [zkq,List.length_cons,List.length_nil,List.append_nil,List.map_cons,List.map_nil,Nat.reduceAdd,Nat.reduceSub,List.replicate,List.cons_append,List.nil_append]
    have hs : (g++[LObj.lst []])[I.sg]? = some (.lst (.str [ch] :: chs r)) := h1.sgl
    have hlt : (chs r).length < szL := by simp at hz ⊢; rw [qy]; exact o106 hz
    have e1 : neV (g++[LObj.lst []]) (.ref I.sg) (.ref g.length) = some true := by
      unfold neV eqV zc1; simp only [hs,jm,zzz]; rw [if_neg (by simp)]; rfl
    have e2 : popF [.ref I.sg,.int 0] (g++[LObj.lst []]) = some (.str [ch],(g++[LObj.lst []]).set I.sg (.lst (chs r))) := by
      simp only [popF,hs,if_pos hlt]
    have e3 : qf (g++[LObj.lst []]) (.ref I.sg) = true := by simp only [qf,hs]
    simp? only [ziw,h.cell,h1.cell,List.length_nil,Nat.zero_le,if_true,e1,e2,e3,List.take_succ_cons,List.take_zero]
noncomputable def nlI (ch : Nat) : Int := if ch = 10 then 1 else 0
theorem wj (n : Nat) (h : LexAt g c I ln cs pb) (hz : cs.length≤1000000) : ∃ g',zy n c [.ref I.li] g = some (.str (cs.take 1),g')∧LexAt g' c I (ln + match cs with | [] => 0 | ch :: _ => nlI ch) cs.tail pb∧Keep [I.ld,I.sg] g g' := by
  obtain ⟨g1,e1,h1,k1⟩ := read_run n h hz (.int 1)
  have k1' : Keep [I.ld,I.sg] g g1 := k1.mono (by simp)
  have er : readE rdD "signs" (zii n) (wx c "instream" (ldE 0)) 1 ⟨[some (.ref I.li),none],g⟩ = some (.str (cs.take 1),⟨[some (.ref I.li),none],g1⟩) := by
    unfold readE
    rw [qp (a := .ref I.sm) (st' := ⟨[some (.ref I.li),none],g⟩) (by dsimp? only [zba,qn,zzz,h.insOf,if_true,zeo,Option.map_some])]
    try dsimp? only [zj]
    simp only [h.rdOf,h.rdf]
    rw [if_pos ⟨trivial,trivial⟩]
    simp only [e1]
  cases cs with
  | nil =>
    refine ⟨g1,?_,by simpa using h1,k1'⟩
    refine qm (st := ⟨[some (.ref I.li),some (.str [])],g1⟩) _ rfl rfl ?_
    simp only [wl,List.length_cons,List.length_nil,List.append_nil,List.map_cons,List.map_nil,Nat.reduceAdd,Nat.reduceSub,List.replicate,List.cons_append,List.nil_append]
    have e10 : eqV g1 (.str []) (.str [10]) = some false := rfl
    simp? only [er,List.take_nil,e10]
  | cons ch r =>
    simp only [List.take_succ_cons,List.take_zero,List.tail_cons] at er h1 ⊢
    by_cases q : ch = 10
    · subst q
      refine ⟨g1.set I.ld (.dic (ji I (ln + 1))),?_,by simpa [nlI] using h1.setLn (ln + 1),k1'.trans (Keep.set (by simp) _)⟩
      refine qm (st := ⟨[some (.ref I.li),some (.str [10])],g1.set I.ld (.dic (ji I (ln + 1)))⟩) _ rfl rfl ?_
      simp only [wl,List.length_cons,List.length_nil,List.append_nil,List.map_cons,List.map_nil,Nat.reduceAdd,Nat.reduceSub,List.replicate,List.cons_append,List.nil_append]
      have e10 : eqV g1 (.str [10]) (.str [10]) = some true := rfl
      have h100 : (ji I ln).length < 100 := by simp [ji]
      have ea : ug c "lineno" addV (ldE 0) (zd (.int 1)) ⟨[some (.ref I.li),some (.str [10])],g1⟩ = some (.next,⟨[some (.ref I.li),some (.str [10])],g1.set I.ld (.dic (ji I (ln + 1)))⟩) :=
        zh5 (v := .ref I.li) (b := .int 1) (w := .int (ln + 1)) (s := ⟨[some (.ref I.li),some (.str [10])],g1⟩) (s2 := ⟨[some (.ref I.li),some (.str [10])],g1⟩) (d := I.ld) (d2 := I.ld) rfl h1.insOf (zb0 I ln) rfl rfl h1.insOf h100
      simp? only [er,e10,ea]
    · refine ⟨g1,?_,by simpa [nlI,q] using h1,k1'⟩
      refine qm (st := ⟨[some (.ref I.li),some (.str [ch])],g1⟩) _ rfl rfl ?_
      simp only [wl,List.length_cons,List.length_nil,List.append_nil,List.map_cons,List.map_nil,Nat.reduceAdd,Nat.reduceSub,List.replicate,List.cons_append,List.nil_append]
      have e10 : eqV g1 (.str [ch]) (.str [10]) = some false := by unfold eqV; simp [q]
      simp? only [er,e10]
end Mine
end
section
namespace Mine
open PySem PyProof.Rows
variable {c fr : Addr} {I : LexI} {ln : Int} {cs r : List Nat} {pb : List V} {g : List LObj} {ci : Nat}
theorem kq (n : Nat) {ch : Nat} (h : LexAt g c I ln (ch :: r) pb) (hz : r.length < 1000000) (hc : g[ci]? = some (.cit fr true I.li)) : ∃ g',vy (zy n c) fr ci g = some (some (.str [ch]),g')∧LexAt g' c I (ln + nlI ch) r pb∧g'[ci]? = some (.cit fr true I.li)∧Keep [I.ld,I.sg] g g' := by
  obtain ⟨g',e,h',k⟩ := wj n h (by simp; exact o107 hz)
  have hc' := k ci _ (by
    have h1 := z4 hc h.dic (by simp)
    have h2 := z4 hc h.sgl (by simp)
    simp [h1,h2]) hc
  refine ⟨g',?_,h',hc',k⟩
  simp only [List.take_succ_cons,List.take_zero] at e
  unfold vy
  simp only [hc,if_true,e,hc']
  simp
theorem cit_end (n : Nat) (h : LexAt g c I ln [] pb) (hc : g[ci]? = some (.cit fr true I.li)) : ∃ g',vy (zy n c) fr ci g = some (none,g'.set ci (.cit fr false I.li))∧LexAt g' c I ln [] pb∧g'[ci]? = some (.cit fr true I.li)∧Keep [I.ld,I.sg] g g' := by
  obtain ⟨g',e,h',k⟩ := wj n h (by simp)
  have hc' := k ci _ (by
    have h1 := z4 hc h.dic (by simp)
    have h2 := z4 hc h.sgl (by simp)
    simp [h1,h2]) hc
  refine ⟨g',?_,by simpa using h',hc',k⟩
  simp only [List.take_nil] at e
  unfold vy
  simp only [hc,if_true,e,hc']
  simp
theorem zbq (n : Nat) {ch : Nat} (h : LexAt g c I ln (ch :: r) pb) (hz : r.length < 1000000) (l : List (Option V)) : ∃ g',vo c "_read_char" (zy n c) (ldE 0) nilL ⟨some (.ref I.li) :: l,g⟩ = some (.str [ch],⟨some (.ref I.li) :: l,g'⟩)∧LexAt g' c I (ln + nlI ch) r pb∧Keep [I.ld,I.sg] g g' := by
  obtain ⟨g',e,h',k⟩ := wj n h (by simp; exact o107 hz)
  refine ⟨g',?_,h',k⟩
  simp only [List.take_succ_cons,List.take_zero] at e
  dsimp? only [zej,qn,zzz,h.insOf,zk0,Option.isNone_none,and_self,if_true,j9,e]
theorem v7 {fl : LF} {f : Addr} {i n : Nat} {body : V→LM Fl} {loc : List (Option V)} {g g' : List LObj} {v : V} {st' : St} (h1 : vy fl f i g = some (some v,g')) (h2 : body v ⟨loc,g'⟩ = some (.next,st')∨body v ⟨loc,g'⟩ = some (.cont,st')) : wp fl f i body (n + 1) ⟨loc,g⟩ = wp fl f i body n st' := by
  conv => lhs; unfold wp
  simp only [h1]
  rcases h2 with h2 | h2 <;> rw [qp h2]
theorem xr {fl : LF} {f : Addr} {i n : Nat} {body : V→LM Fl} {loc : List (Option V)} {g g' : List LObj} {v w : V} {st' : St} (h1 : vy fl f i g = some (some v,g')) (h2 : body v ⟨loc,g'⟩ = some (.ret w,st')) : wp fl f i body (n + 1) ⟨loc,g⟩ = some (.ret w,st') := by
  unfold wp
  simp only [h1]
  rw [qp h2]
theorem zk7 {fl : LF} {f : Addr} {i n : Nat} {body : V→LM Fl} {loc : List (Option V)} {g g' : List LObj} (h1 : vy fl f i g = some (none,g')) : wp fl f i body (n + 1) ⟨loc,g⟩ = some (.next,⟨loc,g'⟩) := by
  unfold wp
  simp only [h1]
noncomputable abbrev qB (n : Nat) (c : Addr) : LM Fl := (seqS (iteL (cmpT eqV (ldE 3) (zd (.str [34]))) (seqS (retS (ldE 1)) zm) (seqS (iteL (cmpT eqV (ldE 3) (zd (.str [92]))) (seqS (asgS 3 (vo c "_read_char" (zy n c) (ldE 0) nilL)) zm) zm) zm)) (seqS (asgS 1 (binE addV (ldE 1) (ldE 3))) zm))
noncomputable abbrev bB (n : Nat) (c : Addr) : LM Fl := (seqS (iteL (cmpT inV (ldE 3) (wx c "whitespace" (ldE 0))) (seqS (retS (ldE 1)) zm) (seqS (iteL (cmpT eqV (ldE 3) (zd (.str [92]))) (seqS (asgS 3 (vo c "_read_char" (zy n c) (ldE 0) nilL)) zm) zm) zm)) (seqS (asgS 1 (binE addV (ldE 1) (ldE 3))) zm))
theorem zga (g : List LObj) (a : Nat) : eqV g (.str [a]) (.str [a]) = some true := by unfold eqV; simp
theorem zcb (g : List LObj) {a b : Nat} (h : a≠b) : eqV g (.str [a]) (.str [b]) = some false := by unfold eqV; simp [h]
theorem zk9 (g : List LObj) {a : Nat} {l : List Nat} (h : a ∈ l) : inV g (.str [a]) (.str l) = some true := by unfold inV; simp [h]
theorem zdq (g : List LObj) {a : Nat} {l : List Nat} (h : a ∉ l) : inV g (.str [a]) (.str l) = some false := by unfold inV; simp [h]
theorem addS {a b : List Nat} (h : a.length + b.length≤1000000) : addV (.str a) (.str b) = some (.str (a++b)) := by unfold addV; simp only; rw [if_pos (by rw [qy]; exact o108 h)]
theorem yt (h : LexAt g c I ln cs pb) (l : List (Option V)) : wx c "whitespace" (ldE 0) ⟨some (.ref I.li) :: l,g⟩ = some (.str [10,9,13,32],⟨some (.ref I.li) :: l,g⟩) := by
  dsimp? only [zba,qn,zzz,h.insOf,if_true,look_ws,Option.map_some]
theorem zfc (h : LexAt g c I ln cs pb) (l : List (Option V)) : wx c "pushback" (ldE 0) ⟨some (.ref I.li) :: l,g⟩ = some (.ref I.pb,⟨some (.ref I.li) :: l,g⟩) := by
  dsimp? only [zba,qn,zzz,h.insOf,if_true,look_pb,Option.map_some]
theorem qB_plain (n : Nat) {s : Nat} (h1 : s≠34) (h2 : s≠92) {tok : List Nat} (hz : tok.length < 1000) (a b x : Option V) (g : List LObj) :
    zw (stS 3 (.str [s])) (fun _ => qB n c) ⟨[a,some (.str tok),b,x],g⟩ = some (.next,⟨[a,some (.str (tok++[s])),b,some (.str [s])],g⟩) := by
  have ha := addS (a := tok) (b := [s]) (by simp; exact o109 hz)
  simp? only [zcb _ h1,zcb _ h2,ha]
theorem qB_esc (n : Nat) {s : Nat} {tok : List Nat} (hz : tok.length < 1000) (b x : Option V) (h : LexAt g c I ln (s :: r) pb) (hr : r.length < 1000000) :
    ∃ g',zw (stS 3 (.str [92])) (fun _ => qB n c) ⟨[some (.ref I.li),some (.str tok),b,x],g⟩ = some (.next,⟨[some (.ref I.li),some (.str (tok++[s])),b,some (.str [s])],g'⟩)∧LexAt g' c I (ln + nlI s) r pb∧Keep [I.ld,I.sg] g g' := by
  obtain ⟨g',e,h',k⟩ := zbq n h hr [some (.str tok),b,some (.str [92])]
  refine ⟨g',?_,h',k⟩
  have ha := addS (a := tok) (b := [s]) (by simp; exact o109 hz)
  simp? only [zcb _ (show 92≠34 by decide),zga,e,ha]
theorem qB_end (n : Nat) {tok : List Nat} (a b x : Option V) (g : List LObj) :
    zw (stS 3 (.str [34])) (fun _ => qB n c) ⟨[a,some (.str tok),b,x],g⟩ = some (.ret (.str tok),⟨[a,some (.str tok),b,some (.str [34])],g⟩) := by
  simp? only [zga]
theorem bB_plain (n : Nat) {s : Nat} (h1 : s ∉ [10,9,13,32]) (h2 : s≠92) {tok : List Nat} (hz : tok.length < 1000) (b x : Option V) (h : LexAt g c I ln cs pb) :
    zw (stS 3 (.str [s])) (fun _ => bB n c) ⟨[some (.ref I.li),some (.str tok),b,x],g⟩ = some (.next,⟨[some (.ref I.li),some (.str (tok++[s])),b,some (.str [s])],g⟩) := by
  have ha := addS (a := tok) (b := [s]) (by simp; exact o109 hz)
  simp? only [yt h,zdq _ h1,zcb _ h2,ha]
theorem bB_esc (n : Nat) {s : Nat} {tok : List Nat} (hz : tok.length < 1000) (b x : Option V) (h : LexAt g c I ln (s :: r) pb) (hr : r.length < 1000000) :
    ∃ g',zw (stS 3 (.str [92])) (fun _ => bB n c) ⟨[some (.ref I.li),some (.str tok),b,x],g⟩ = some (.next,⟨[some (.ref I.li),some (.str (tok++[s])),b,some (.str [s])],g'⟩)∧LexAt g' c I (ln + nlI s) r pb∧Keep [I.ld,I.sg] g g' := by
  obtain ⟨g',e,h',k⟩ := zbq n h hr [some (.str tok),b,some (.str [92])]
  refine ⟨g',?_,h',k⟩
  have ha := addS (a := tok) (b := [s]) (by simp; exact o109 hz)
  simp? only [yt h,zdq _ (show 92 ∉ [10,9,13,32] by decide),zga,e,ha]
theorem bB_end (n : Nat) {t : Nat} (ht : t ∈ [10,9,13,32]) {tok : List Nat} (b x : Option V) (h : LexAt g c I ln cs pb) :
    zw (stS 3 (.str [t])) (fun _ => bB n c) ⟨[some (.ref I.li),some (.str tok),b,x],g⟩ = some (.ret (.str tok),⟨[some (.ref I.li),some (.str tok),b,some (.str [t])],g⟩) := by
  simp? only [yt h,zk9 _ ht]
noncomputable def escq (w : List Nat) : List Nat := w.flatMap fun s => if s ∈ [34,92] then [92,s] else [s]
noncomputable def escb (w : List Nat) : List Nat := w.flatMap fun s => if s ∈ [34,92,32] then [92,s] else [s]
theorem zf9 (s : Nat) (w : List Nat) : escq (s :: w) = (if s ∈ [34,92] then [92,s] else [s])++escq w := by simp [escq]
theorem zca (s : Nat) (w : List Nat) : escb (s :: w) = (if s ∈ [34,92,32] then [92,s] else [s])++escb w := by simp [escb]
theorem ur (n : Nat) {rest : List Nat} : ∀ (w tok : List Nat) (x : Option V) (g : List LObj) (m : Nat),LexAt g c I ln (escq w++34 :: rest) pb→g[ci]? = some (.cit fr true I.li)→(escq w++34 :: rest).length≤1000000→tok.length + w.length < 1000→w.length < m→(∀ s ∈ w,s≠10) →
    ∃ loc' g',wp (zy n c) fr ci (fun x => zw (stS 3 x) fun _ => qB n c) m ⟨[some (.ref I.li),some (.str tok),some (.ref ci),x],g⟩ = some (.ret (.str (tok++w)),⟨loc',g'⟩)∧LexAt g' c I ln rest pb∧Keep [I.ld,I.sg] g g'
  | [],tok,x,g,m + 1,h,hc,hz,ht,hm,h10 => by
    obtain ⟨g1,e1,h1,c1,k1⟩ := kq n (show LexAt g c I ln (34 :: rest) pb from h) (by simp [escq] at hz; exact o110 hz) hc
    refine ⟨[some (.ref I.li),some (.str tok),some (.ref ci),some (.str [34])],g1,?_,by simpa [nlI] using h1,k1⟩
    rw [xr e1 (qB_end n _ _ _ g1),List.append_nil]
  | s :: w,tok,x,g,m + 1,h,hc,hz,ht,hm,h10 => by
    rw [zf9] at h hz
    have hs10 : nlI s = 0 := by unfold nlI; rw [if_neg (h10 s (List.mem_cons_self ..))]
    have h10' : ∀ s ∈ w,s≠10 := fun s hs => h10 s (List.mem_cons_of_mem _ hs)
    simp only [List.length_cons] at ht hm
    by_cases q : s ∈ [34,92]
    · rw [if_pos q] at h hz
      obtain ⟨g1,e1,h1,c1,k1⟩ := kq n (show LexAt g c I ln (92 :: (s :: (escq w++34 :: rest))) pb from h) (by simp at hz ⊢; exact o111 hz) hc
      have h1' : LexAt g1 c I ln (s :: (escq w++34 :: rest)) pb := by simpa [nlI] using h1
      obtain ⟨g2,e2,h2,k2⟩ := qB_esc n (tok := tok) (o112 ht) (some (.ref ci)) x h1' (by simp at hz ⊢; exact o113 hz)
      rw [hs10,Int.add_zero] at h2
      have c2 := k2 ci _ (by
        have a1 := z4 c1 h1'.dic (by simp)
        have a2 := z4 c1 h1'.sgl (by simp)
        simp [a1,a2]) c1
      obtain ⟨loc',g3,e3,h3,k3⟩ := ur n w (tok++[s]) _ g2 m h2 c2 (by simp at hz ⊢; exact o114 hz) (by simp; exact o115 ht) (o116 hm) h10'
      refine ⟨loc',g3,?_,h3,(k1.trans k2).trans k3⟩
      rw [v7 e1 (.inl e2),e3,List.append_assoc]; rfl
    · rw [if_neg q] at h hz
      obtain ⟨g1,e1,h1,c1,k1⟩ := kq n (show LexAt g c I ln (s :: (escq w++34 :: rest)) pb from h) (by simp at hz ⊢; exact o117 hz) hc
      rw [hs10,Int.add_zero] at h1
      obtain ⟨loc',g3,e3,h3,k3⟩ := ur n w (tok++[s]) _ g1 m h1 c1 (by simp at hz ⊢; exact o118 hz) (by simp; exact o115 ht) (o116 hm) h10'
      refine ⟨loc',g3,?_,h3,k1.trans k3⟩
      rw [v7 e1 (.inl (qB_plain n (fun z => q (by simp [z])) (fun z => q (by simp [z])) (o112 ht) _ _ x g1)),e3,List.append_assoc]; rfl
theorem za9 (n : Nat) {rest : List Nat} {t : Nat} (hws : t ∈ [10,9,13,32]) (ht10 : t≠10) : ∀ (w tok : List Nat) (x : Option V) (g : List LObj) (m : Nat),LexAt g c I ln (escb w++t :: rest) pb→g[ci]? = some (.cit fr true I.li)→(escb w++t :: rest).length≤1000000→tok.length + w.length < 1000→w.length < m→(∀ s ∈ w,s ∉ [10,9,13]) →
    ∃ loc' g',wp (zy n c) fr ci (fun x => zw (stS 3 x) fun _ => bB n c) m ⟨[some (.ref I.li),some (.str tok),some (.ref ci),x],g⟩ = some (.ret (.str (tok++w)),⟨loc',g'⟩)∧LexAt g' c I ln rest pb∧Keep [I.ld,I.sg] g g'
  | [],tok,x,g,m + 1,h,hc,hz,ht,hm,h10 => by
    obtain ⟨g1,e1,h1,c1,k1⟩ := kq n (show LexAt g c I ln (t :: rest) pb from h) (by simp [escb] at hz; exact o110 hz) hc
    have h1' : LexAt g1 c I ln rest pb := by simpa [nlI,ht10] using h1
    refine ⟨[some (.ref I.li),some (.str tok),some (.ref ci),some (.str [t])],g1,?_,h1',k1⟩
    rw [xr e1 (bB_end n hws _ _ h1'),List.append_nil]
  | s :: w,tok,x,g,m + 1,h,hc,hz,ht,hm,h10 => by
    rw [zca] at h hz
    have hs := h10 s (List.mem_cons_self ..)
    have hs10 : nlI s = 0 := by unfold nlI; rw [if_neg (fun z => hs (by simp [z]))]
    have h10' : ∀ s ∈ w,s ∉ [10,9,13] := fun s hs => h10 s (List.mem_cons_of_mem _ hs)
    simp only [List.length_cons] at ht hm
    by_cases q : s ∈ [34,92,32]
    · rw [if_pos q] at h hz
      obtain ⟨g1,e1,h1,c1,k1⟩ := kq n (show LexAt g c I ln (92 :: (s :: (escb w++t :: rest))) pb from h) (by simp at hz ⊢; exact o111 hz) hc
      have h1' : LexAt g1 c I ln (s :: (escb w++t :: rest)) pb := by simpa [nlI] using h1
      obtain ⟨g2,e2,h2,k2⟩ := bB_esc n (tok := tok) (o112 ht) (some (.ref ci)) x h1' (by simp at hz ⊢; exact o113 hz)
      rw [hs10,Int.add_zero] at h2
      have c2 := k2 ci _ (by
        have a1 := z4 c1 h1'.dic (by simp)
        have a2 := z4 c1 h1'.sgl (by simp)
        simp [a1,a2]) c1
      obtain ⟨loc',g3,e3,h3,k3⟩ := za9 n hws ht10 w (tok++[s]) _ g2 m h2 c2 (by simp at hz ⊢; exact o114 hz) (by simp; exact o115 ht) (o116 hm) h10'
      refine ⟨loc',g3,?_,h3,(k1.trans k2).trans k3⟩
      rw [v7 e1 (.inl e2),e3,List.append_assoc]; rfl
    · rw [if_neg q] at h hz
      obtain ⟨g1,e1,h1,c1,k1⟩ := kq n (show LexAt g c I ln (s :: (escb w++t :: rest)) pb from h) (by simp at hz ⊢; exact o117 hz) hc
      rw [hs10,Int.add_zero] at h1
      obtain ⟨loc',g3,e3,h3,k3⟩ := za9 n hws ht10 w (tok++[s]) _ g1 m h1 c1 (by simp at hz ⊢; exact o118 hz) (by simp; exact o115 ht) (o116 hm) h10'
      refine ⟨loc',g3,?_,h3,k1.trans k3⟩
      have q1 : s ∉ [10,9,13,32] := fun z => by simp at z hs q; exact o119 z hs q
      rw [v7 e1 (.inl (bB_plain n q1 (fun z => q (by simp [z])) (o112 ht) _ x h1)),e3,List.append_assoc]; rfl
end Mine
end
section
namespace Mine
open PySem PyProof.Rows
variable {c fr : Addr} {I : LexI} {ln : Int} {cs r : List Nat} {pb : List V} {g : List LObj} {ci : Nat}
noncomputable abbrev oB (n : Nat) (c fr : Addr) : LM Fl := (seqS (iteL (cmpT inV (ldE 3) (wx c "whitespace" (ldE 0))) (seqS za0 zm) zm) (seqS (iteL (cmpT eqV (ldE 3) (zd (.str [34]))) (seqS (forC n (zy n c) fr (ldE 2) (stS 3) (qB n c)) zm) (seqS (iteL (cmpT eqV (ldE 3) (zd (.str [92]))) (seqS (asgS 3 (vo c "_read_char" (zy n c) (ldE 0) nilL)) zm) zm) (seqS (asgS 1 (binE addV (ldE 1) (ldE 3))) (seqS (forC n (zy n c) fr (ldE 2) (stS 3) (bB n c)) zm)))) zm))
theorem y8 {fl : LF} {body : LM Fl} {n : Nat} {a b x : Option V} {l : Nat} {on : Bool} (hc : g[ci]? = some (.cit fr on l)) : forC n fl fr (ldE 2) (stS 3) body ⟨[a,b,some (.ref ci),x],g⟩ = wp fl fr ci (fun x => zw (stS 3 x) fun _ => body) n ⟨[a,b,some (.ref ci),x],g⟩ := by
  unfold forC
  rw [qp (a := .ref ci) (st' := ⟨[a,b,some (.ref ci),x],g⟩) rfl]
  simp only [hc]
noncomputable def nls (ws : List Nat) : Int := (ws.map nlI).sum
theorem zd6 (n : Nat) : ∀ (ws : List Nat) (tok : List Nat) (x : Option V) (ln : Int) (g : List LObj) (m : Nat),LexAt g c I ln (ws++cs) pb→g[ci]? = some (.cit fr true I.li)→(ws++cs).length≤1000000→(∀ s ∈ ws,s ∈ [10,9,13,32]) →
    ∃ x' g',wp (zy n c) fr ci (fun x => zw (stS 3 x) fun _ => oB n c fr) (m + ws.length) ⟨[some (.ref I.li),some (.str tok),some (.ref ci),x],g⟩ = wp (zy n c) fr ci (fun x => zw (stS 3 x) fun _ => oB n c fr) m ⟨[some (.ref I.li),some (.str tok),some (.ref ci),x'],g'⟩ ∧
      LexAt g' c I (ln + nls ws) cs pb∧g'[ci]? = some (.cit fr true I.li)∧Keep [I.ld,I.sg] g g'
  | [],tok,x,ln,g,m,h,hc,hz,hw => ⟨x,g,rfl,by simpa [nls] using h,hc,.refl _ _⟩
  | s :: ws,tok,x,ln,g,m,h,hc,hz,hw => by
    obtain ⟨g1,e1,h1,c1,k1⟩ := kq n (show LexAt g c I ln (s :: (ws++cs)) pb from h) (by simp at hz ⊢; exact o120 hz) hc
    obtain ⟨x',g2,e2,h2,c2,k2⟩ := zd6 n ws tok (some (.str [s])) (ln + nlI s) g1 m h1 c1 (by simp at hz ⊢; exact o121 hz) (fun s hs => hw s (List.mem_cons_of_mem _ hs))
    refine ⟨x',g2,?_,?_,c2,k1.trans k2⟩
    · rw [List.length_cons,← Nat.add_assoc,v7 e1 (st' := ⟨[some (.ref I.li),some (.str tok),some (.ref ci),some (.str [s])],g1⟩) (.inr ?_),e2]
      simp? only [yt h1,zk9 _ (hw s (List.mem_cons_self ..))]
    · have : ln + nls (s :: ws) = ln + nlI s + nls ws := by simp [nls]; exact o122
      rw [this]; exact h2
theorem vr (n : Nat) (h : LexAt g c I ln cs []) {v : V} {loc' : List (Option V)} {g' : List LObj}
    (e : wp (zy n c) fr g.length (fun x => zw (stS 3 x) fun _ => oB n c fr) n ⟨[some (.ref I.li),some (.str []),some (.ref g.length),none],g++[.cit fr true I.li]⟩ = some (.ret v,⟨loc',g'⟩) ∨
      (v = .str []∧∃ x,wp (zy n c) fr g.length (fun x => zw (stS 3 x) fun _ => oB n c fr) n ⟨[some (.ref I.li),some (.str []),some (.ref g.length),none],g++[.cit fr true I.li]⟩ = some (.next,⟨[some (.ref I.li),some (.str []),some (.ref g.length),x],g'⟩))) : qc n c fr [.ref I.li] g = some (v,g') := by
  have htr : truV g (.ref I.pb) = some false := by unfold truV; simp only [h.pbl]; rfl
  have hit : iterE c fr "_read_char" (ldE 0) ⟨[some (.ref I.li),some (.str []),none,none],g⟩ = some (.ref g.length,⟨[some (.ref I.li),some (.str []),none,none],g++[.cit fr true I.li]⟩) := by
    unfold iterE
    rw [qp (a := .ref I.li) (st' := ⟨[some (.ref I.li),some (.str []),none,none],g⟩) rfl]
    simp only [h.insOf,zk0,Option.isNone_none,and_self,if_true]
  rcases e with e | ⟨rfl,x,e⟩
  · refine qm (st := ⟨loc',g'⟩) _ rfl rfl ?_
    simp only [wt,List.length_cons,List.length_nil,List.append_nil,List.map_cons,List.map_nil,Nat.reduceAdd,Nat.reduceSub,List.replicate,List.cons_append,List.nil_append]
    simp? only [zfc h,htr,hit,y8 (g := g++[.cit fr true I.li]) (ci := g.length) (jm g _),e]
  · refine qm (st := ⟨[some (.ref I.li),some (.str []),some (.ref g.length),x],g'⟩) _ rfl rfl ?_
    simp only [wt,List.length_cons,List.length_nil,List.append_nil,List.map_cons,List.map_nil,Nat.reduceAdd,Nat.reduceSub,List.replicate,List.cons_append,List.nil_append]
    simp? only [zfc h,htr,hit,y8 (g := g++[.cit fr true I.li]) (ci := g.length) (jm g _),e]
theorem zjd (n : Nat) {tok : V} {pbr : List V} (h : LexAt g c I ln cs (tok :: pbr)) (hz : pbr.length < 1000) : qc n c fr [.ref I.li] g = some (tok,g.set I.pb (.lst pbr)) := by
  have htr : truV g (.ref I.pb) = some true := by
    unfold truV; simp only [h.pbl]; rw [if_pos (by simp; rw [qy]; exact o123 hz)]; rfl
  have e2 : popF [.ref I.pb,.int 0] g = some (tok,g.set I.pb (.lst pbr)) := by
    simp only [popF,h.pbl]; rw [if_pos (by rw [qy]; exact o124 hz)]
  have e3 : qf g (.ref I.pb) = true := by simp only [qf,h.pbl]
  refine qm (st := ⟨[some (.ref I.li),none,none,none],_⟩) _ rfl rfl ?_
  simp only [wt,List.length_cons,List.length_nil,List.append_nil,List.map_cons,List.map_nil,Nat.reduceAdd,Nat.reduceSub,List.replicate,List.cons_append,List.nil_append]
  simp? only [zfc h,htr,e2,e3,if_true]
theorem push_run (n : Nat) (h : LexAt g c I ln cs pb) (hz : pb.length < 1000) (tok : V) : jh n c [.ref I.li,tok] g = some (.none,g.set I.pb (.lst (pb++[tok]))) := by
  have e2 : zt [.ref I.pb,tok] g = some (.none,g.set I.pb (.lst (pb++[tok]))) := by
    simp only [zt,h.pbl]; rw [if_pos (by rw [qy]; exact o125 hz)]
  have e3 : qf g (.ref I.pb) = true := by simp only [qf,h.pbl]
  refine xj (st := ⟨[some (.ref I.li),some tok],_⟩) _ rfl rfl ?_
  simp only [zal,List.length_cons,List.length_nil,List.append_nil,List.map_cons,List.map_nil,Nat.reduceAdd,Nat.reduceSub,List.replicate,List.cons_append,List.nil_append]
  simp? only [zfc h,e2,e3,if_true]
theorem zjc (n : Nat) (ws w rest : List Nat) (h : LexAt g c I ln (ws++34 :: (escq w++34 :: rest)) []) (hz : (ws++34 :: (escq w++34 :: rest)).length≤1000000) (hn : ws.length + w.length + 5 < n) (hws : ∀ s ∈ ws,s ∈ [10,9,13,32]) (hw : w.length < 900) (h10 : ∀ s ∈ w,s≠10) :
    ∃ g',qc n c fr [.ref I.li] g = some (.str w,g')∧LexAt g' c I (ln + nls ws) rest []∧Keep [I.ld,I.sg] g g' := by
  have h0 := h.app [.cit fr true I.li]
  obtain ⟨x1,g1,e1,h1,c1,k1⟩ := zd6 n (cs := 34 :: (escq w++34 :: rest)) ws [] none ln (g++[.cit fr true I.li]) (n - ws.length) h0 (jm g _) hz hws
  rw [show n - ws.length + ws.length = n by exact o126 hn hw] at e1
  obtain ⟨g2,e2,h2,c2,k2⟩ := kq n h1 (by simp at hz ⊢; exact o127 hz) c1
  have h2' : LexAt g2 c I (ln + nls ws) (escq w++34 :: rest) [] := by simpa [nlI] using h2
  obtain ⟨loc',g3,e3,h3,k3⟩ := ur n w [] (some (.str [34])) g2 n h2' c2 (by simp at hz ⊢; exact o128 hz) (by simp; exact o129 hw) (o130 hn) h10
  refine ⟨g3,vr n h (loc' := loc') (.inl ?_),h3,((Keep.app _ _ _).trans k1).trans (k2.trans k3)⟩
  rw [e1,show n - ws.length = (n - ws.length - 1) + 1 by exact o131 hn hw,xr e2]
  rw [List.nil_append] at e3
  simp? only [yt h2',zdq _ (show 34 ∉ [10,9,13,32] by decide),zga,y8 c2,e3]
theorem get_bare (n : Nat) (ws w rest : List Nat) {t : Nat} (ht : t ∈ [10,9,13,32]) (ht10 : t≠10) (h : LexAt g c I ln (ws++(escb w++t :: rest)) []) (hz : (ws++(escb w++t :: rest)).length≤1000000) (hn : ws.length + w.length + 5 < n) (hws : ∀ s ∈ ws,s ∈ [10,9,13,32]) (hw : w.length < 900) (hne : w≠[]) (h10 : ∀ s ∈ w,s ∉ [10,9,13]) :
    ∃ g',qc n c fr [.ref I.li] g = some (.str w,g')∧LexAt g' c I (ln + nls ws) rest []∧Keep [I.ld,I.sg] g g' := by
  have h0 := h.app [.cit fr true I.li]
  obtain ⟨x1,g1,e1,h1,c1,k1⟩ := zd6 n (cs := escb w++t :: rest) ws [] none ln (g++[.cit fr true I.li]) (n - ws.length) h0 (jm g _) hz hws
  rw [show n - ws.length + ws.length = n by exact o126 hn hw] at e1
  obtain ⟨s,w,rfl⟩ : ∃ s w',w = s :: w' := by cases w with | nil => exact absurd rfl hne | cons s w => exact ⟨s,w,rfl⟩
  rw [zca] at h1 hz
  have hs := h10 s (List.mem_cons_self ..)
  have hs10 : nlI s = 0 := by unfold nlI; rw [if_neg (fun z => hs (by simp [z]))]
  have h10' : ∀ s ∈ w,s ∉ [10,9,13] := fun s hs => h10 s (List.mem_cons_of_mem _ hs)
  simp only [List.length_cons] at hw hn
  have ha := addS (a := []) (b := [s]) (by simp)
  by_cases q : s ∈ [34,92,32]
  · rw [if_pos q] at h1 hz
    obtain ⟨g2,e2,h2,c2,k2⟩ := kq n (show LexAt g1 c I (ln + nls ws) (92 :: (s :: (escb w++t :: rest))) [] from h1) (by simp at hz ⊢; exact o132 hz) c1
    have h2' : LexAt g2 c I (ln + nls ws) (s :: (escb w++t :: rest)) [] := by simpa [nlI] using h2
    obtain ⟨g3,e3,h3,k3⟩ := zbq n h2' (by simp at hz ⊢; exact o133 hz) [some (.str []),some (.ref g.length),some (.str [92])]
    rw [hs10,Int.add_zero] at h3
    have c3 := k3 g.length _ (by
      have a1 := z4 c2 h2'.dic (by simp)
      have a2 := z4 c2 h2'.sgl (by simp)
      simp [a1,a2]) c2
    obtain ⟨loc',g4,e4,h4,k4⟩ := za9 n ht ht10 w [s] (some (.str [s])) g3 n h3 c3 (by simp at hz ⊢; exact o134 hz) (by simp; exact o135 hw) (o136 hn) h10'
    refine ⟨g4,vr n h (loc' := loc') (.inl ?_),h4,((Keep.app _ _ _).trans k1).trans (k2.trans (k3.trans k4))⟩
    rw [e1,show n - ws.length = (n - ws.length - 1) + 1 by exact o137 hn hw,xr e2]
    simp only [List.cons_append,List.nil_append] at e4 ha
    simp? only [yt h2',zdq _ (show 92 ∉ [10,9,13,32] by decide),zcb _ (show 92≠34 by decide),zga,e3,ha,y8 c3,e4]
  · rw [if_neg q] at h1 hz
    obtain ⟨g2,e2,h2,c2,k2⟩ := kq n (show LexAt g1 c I (ln + nls ws) (s :: (escb w++t :: rest)) [] from h1) (by simp at hz ⊢; exact o127 hz) c1
    rw [hs10,Int.add_zero] at h2
    have q1 : s ∉ [10,9,13,32] := fun z => by simp at z hs q; exact o119 z hs q
    obtain ⟨loc',g4,e4,h4,k4⟩ := za9 n ht ht10 w [s] (some (.str [s])) g2 n h2 c2 (by simp at hz ⊢; exact o128 hz) (by simp; exact o135 hw) (o136 hn) h10'
    refine ⟨g4,vr n h (loc' := loc') (.inl ?_),h4,((Keep.app _ _ _).trans k1).trans (k2.trans k4)⟩
    rw [e1,show n - ws.length = (n - ws.length - 1) + 1 by exact o137 hn hw,xr e2]
    simp only [List.cons_append,List.nil_append] at e4 ha
    simp? only [yt h2,zdq _ q1,zcb _ (show s≠34 from fun z => q (by simp [z])),zcb _ (show s≠92 from fun z => q (by simp [z])),ha,y8 c2,e4]
theorem zld (n : Nat) (ws : List Nat) (h : LexAt g c I ln ws []) (hz : ws.length≤1000000) (hn : ws.length + 5 < n) (hws : ∀ s ∈ ws,s ∈ [10,9,13,32]) :
    ∃ g',qc n c fr [.ref I.li] g = some (.str [],g')∧LexAt g' c I (ln + nls ws) [] []∧Keep [I.ld,I.sg] g g' := by
  have h0 := h.app [.cit fr true I.li]
  obtain ⟨x1,g1,e1,h1,c1,k1⟩ := zd6 n (cs := []) ws [] none ln (g++[.cit fr true I.li]) (n - ws.length) (by simpa using h0) (jm g _) (by simpa using hz) hws
  rw [show n - ws.length + ws.length = n by exact o138 hn] at e1
  obtain ⟨g2,e2,h2,c2,k2⟩ := cit_end n h1 c1
  have hci : ∀ i ∈ [g.length],g[i]? = none := fun i hi => by simp at hi; subst hi; simp
  have k3 : Keep [g.length] g2 (g2.set g.length (.cit fr false I.li)) := Keep.set (by simp) _
  have kk : Keep [I.ld,I.sg] g (g2.set g.length (.cit fr false I.li)) := fun i o hi e => by
    have hlt := (List.getElem?_eq_some_iff.mp e).1
    exact k3 i o (by simp; exact o139 hlt) (k2 i o hi (k1 i o hi (qw e)))
  refine ⟨_,vr n h (v := .str []) (loc' := []) (.inr ⟨rfl,x1,?_⟩),?_,kk⟩
  · rw [e1,show n - ws.length = (n - ws.length - 1) + 1 by exact o140 hn,zk7 e2]
  · refine h2.keep k3 fun i hi => .inr ?_
    simp at hi; subst hi
    have q : ∀ {j : Nat} {o : LObj},g2[j]? = some o→o≠.cit fr true I.li→g.length≠j := fun e ho e' => by rw [e',e] at c2; exact ho (Option.some.inj c2)
    exact ⟨q h2.ins (by simp),q h2.dic (by simp),q h2.stf (by simp),q h2.sdic (by simp),q h2.rdf (by simp),q h2.cell (by simp),q h2.sgl (by simp),q h2.pbl (by simp)⟩
end Mine
end
section
namespace Mine
open PySem PyProof.Rows
theorem strs_of (ls : List (List Nat)) : zg1 (ls.map V.str) = some ls := by
  induction ls with
  | nil => rfl
  | cons l r ih => simp [zg1,ih]
theorem yq (ns : List Int) : v8 (ns.map V.int) = some ns := by
  induction ns with
  | nil => rfl
  | cons l r ih => simp [v8,ih]
theorem zhq {g : List LObj} {i : Nat} {ls : List (List Nat)} (h : g[i]? = some (.lst (ls.map V.str))) (hz : ls.flatten.length≤1000000) : zhr [.str [],.ref i] g = some (.str ls.flatten,g) := by
  simp only [zhr,h,strs_of]; rw [if_pos hz]
theorem je {α β : Type} (f : α→β) (l : List α) : l.filterMap (fun x => some (f x)) = l.map f := by simp
theorem zdm (n : Nat) (w : List Nat) (hn : w.length < n) (hz : w.length≤1000) (hb : ∀ s ∈ w,s < 256) (g : List LObj) : ∃ junk,q7 n [.str w] g = some (.bytes (w.map (·.toUInt8)),g++junk) := by
  let res : V→Option V := fun v => match v with
    | .str [s] => some (.int (s : Int))
    | _ => none
  obtain ⟨junk,e⟩ := ue (g := g) (src := .vals (w.map fun s => .str [s])) (vs := w.map fun s => .str [s]) (k := 1) (cap := []) (asg := stS 0) (test := yesT) (elt := zr ordF (zl (ldE 0) nilL)) (f := ldE 0) (v := .str w) (loc := [some (.str w)]) (n := n) res rfl rfl za3 (by simp; rw [qy]; exact o141 hz) (by simpa using hn) (by
    intro v hv o x junk ho
    obtain ⟨s,hs,rfl⟩ := List.mem_map.mp hv
    obtain ⟨o0,rfl⟩ : ∃ o0,o = [o0] := by rcases o with _ | ⟨a,_ | ⟨b,r⟩⟩ <;> simp at ho; exact ⟨a,rfl⟩
    refine ⟨[some (.str [s])],[],rfl,rfl,?_⟩
    simp only [res,List.map_nil,List.append_nil]
    exact ⟨rfl,by simp? only [ordF]⟩)
  have hres : (w.map fun s => V.str [s]).filterMap res = (w.map fun s : Nat => (s : Int)).map V.int := by
    rw [List.filterMap_map,List.map_map]
    exact je (fun s : Nat => V.int (s : Int)) w
  rw [hres] at e
  refine ⟨.lst ((w.map fun s : Nat => (s : Int)).map V.int) :: junk,qm (st := ⟨[some (.str w)],g++.lst ((w.map fun s : Nat => (s : Int)).map V.int) :: junk⟩) _ rfl rfl ?_⟩
  simp only [zan,List.length_cons,List.length_nil,List.append_nil,List.map_cons,List.map_nil,Nat.reduceAdd,Nat.reduceSub,List.replicate,List.cons_append,List.nil_append]
  have hbf : kz [.ref g.length] (g++.lst ((w.map fun s : Nat => (s : Int)).map V.int) :: junk) = some (.bytes (w.map (·.toUInt8)),g++.lst ((w.map fun s : Nat => (s : Int)).map V.int) :: junk) := by
    simp only [kz,jf,jm,zzz]
    rw [if_pos (by simp; rw [qy]; exact o141 hz),yq]
    simp only
    rw [if_pos (by rw [List.all_eq_true]; intro x hx; obtain ⟨s,hs,rfl⟩ := List.mem_map.mp hx; have := hb s hs; simp; exact o142 this)]
    simp only [List.map_map,Function.comp_def,Int.toNat_natCast]
  rw [zq,zkp,vt,jw,e]
  try dsimp? only [zj]
  dsimp? only [j9,hbf]
theorem zdd (n : Nat) (w esc : List Nat) (hn : w.length < n) (hz : w.length≤1000) (b : Option V) (g : List LObj) : ∃ junk,
    kb n (ldE 0) 1 [] (stS 0) yesT (iteL (cmpT inV (ldE 0) (zd (.str esc))) (binE addV (zd (.str [92])) (ldE 0)) (ldE 0)) ⟨[some (.str w),b],g⟩ =
      some (.ref g.length,⟨[some (.str w),b],g++.lst ((w.map fun s => if s ∈ esc then [92,s] else [s]).map V.str) :: junk⟩) := by
  let res : V→Option V := fun v => match v with
    | .str [s] => some (.str (if s ∈ esc then [92,s] else [s]))
    | _ => none
  obtain ⟨junk,e⟩ := ue (g := g) (src := .vals (w.map fun s => .str [s])) (vs := w.map fun s => .str [s]) (k := 1) (cap := []) (asg := stS 0) (test := yesT) (elt := (iteL (cmpT inV (ldE 0) (zd (.str esc))) (binE addV (zd (.str [92])) (ldE 0)) (ldE 0))) (f := ldE 0) (v := .str w) (loc := [some (.str w),b]) (n := n) res rfl rfl za3 (by simp; rw [qy]; exact o141 hz) (by simpa using hn) (by
    intro v hv o x junk ho
    obtain ⟨s,hs,rfl⟩ := List.mem_map.mp hv
    obtain ⟨o0,rfl⟩ : ∃ o0,o = [o0] := by rcases o with _ | ⟨a,_ | ⟨b,r⟩⟩ <;> simp at ho; exact ⟨a,rfl⟩
    refine ⟨[some (.str [s])],[],rfl,rfl,?_⟩
    simp only [res,List.map_nil,List.append_nil]
    refine ⟨rfl,?_⟩
    have ha := addS (a := [92]) (b := [s]) (by simp)
    by_cases q : s ∈ esc
    · simp? only [zk9 _ q,ha,if_pos q]; rfl
    · simp? only [zdq _ q,if_neg q])
  have hres : (w.map fun s => V.str [s]).filterMap res = (w.map fun s => if s ∈ esc then [92,s] else [s]).map V.str := by
    rw [List.filterMap_map,List.map_map]
    exact je (fun s => V.str (if s ∈ esc then [92,s] else [s])) w
  rw [hres] at e
  exact ⟨junk,e⟩
theorem zir (w esc : List Nat) : (w.map fun s => if s ∈ esc then [92,s] else [s]).flatten.length≤2 * w.length := by
  induction w with
  | nil => simp
  | cons s w ih => simp only [List.map_cons,List.flatten_cons,List.length_append,List.length_cons]; split <;> simp only [List.length_cons,List.length_nil] <;> omega
theorem zfp (n : Nat) (w : List Nat) (way : Int) (hw : way % 2 = 0) (hn : w.length < n) (hz : w.length≤900) (g : List LObj) : ∃ junk,jj n [.str w,.int way] g = some (.str (34 :: (escq w++[34])),g++junk) := by
  obtain ⟨junk,e⟩ := zdd n w [34,92] hn (o145 hz) (some (.int way)) g
  have hfl := zir w [34,92]
  have hj := zhq (g := g++.lst ((w.map fun s => if s ∈ [34,92] then [92,s] else [s]).map V.str) :: junk) (i := g.length) (jm _ _) (o146 hz hfl)
  have e1 : modV (.int way) (.int 2) = some (.int 0) := by unfold modV; simp only; rw [if_pos (by decide),hw]
  have e2 : ∀ g : List LObj,eqV g (.int 0) (.int 0) = some true := fun g => rfl
  have a1 := addS (a := [34]) (b := (w.map fun s => if s ∈ [34,92] then [92,s] else [s]).flatten) (by simp only [List.length_cons,List.length_nil]; exact o147 hz hfl)
  have a2 := addS (a := [34]++(w.map fun s => if s ∈ [34,92] then [92,s] else [s]).flatten) (b := [34]) (by simp only [List.length_append,List.length_cons,List.length_nil]; exact o148 hz hfl)
  refine ⟨.lst ((w.map fun s => if s ∈ [34,92] then [92,s] else [s]).map V.str) :: junk,qm (st := ⟨[some (.str w),some (.int way)],g++.lst ((w.map fun s => if s ∈ [34,92] then [92,s] else [s]).map V.str) :: junk⟩) _ rfl rfl ?_⟩
  simp only [wn,List.length_cons,List.length_nil,List.append_nil,List.map_cons,List.map_nil,Nat.reduceAdd,Nat.reduceSub,List.replicate,List.cons_append,List.nil_append]
  simp? only [e1,e2,zao,if_true,e,hj,a1,a2]
  have : escq w = (w.map fun s => if s ∈ [34,92] then [92,s] else [s]).flatten := by simp [escq,List.flatMap]
  rw [this]; rfl
noncomputable def tOf (way : Int) : Nat := [32,9,13].getD (way / 2 % 3).toNat 32
theorem zg3 (n : Nat) (w : List Nat) (way : Int) (hw : way % 2≠0) (hn : w.length < n) (hz : w.length≤900) (g : List LObj) : ∃ junk,jj n [.str w,.int way] g = some (.str (escb w++[tOf way]),g++junk) := by
  obtain ⟨junk,e⟩ := zdd n w [34,92,32] hn (o145 hz) (some (.int way)) g
  have hfl := zir w [34,92,32]
  have hj := zhq (g := g++.lst ((w.map fun s => if s ∈ [34,92,32] then [92,s] else [s]).map V.str) :: junk) (i := g.length) (jm _ _) (o146 hz hfl)
  have e1 : modV (.int way) (.int 2) = some (.int (way % 2)) := by unfold modV; simp only; rw [if_pos (by decide)]
  have e2 : ∀ g : List LObj,eqV g (.int (way % 2)) (.int 0) = some false := fun g => by unfold eqV; simp [hw]
  have e3 : divV (.int way) (.int 2) = some (.int (way / 2)) := by unfold divV; simp only; rw [if_pos (by decide)]
  have e4 : modV (.int (way / 2)) (.int 3) = some (.int (way / 2 % 3)) := by unfold modV; simp only; rw [if_pos (by decide)]
  obtain ⟨t,ht,e5⟩ : ∃ t,t = tOf way∧∀ g : List LObj,jg (g++[.lst [.str [32],.str [9],.str [13]]]) (.ref g.length) (.int (way / 2 % 3)) = some (.str [t]) := by
    have h0 := Int.emod_nonneg (way / 2) (show (3 : Int)≠0 by decide)
    have h3 := Int.emod_lt_of_pos (way / 2) (show (0 : Int) < 3 by decide)
    obtain ⟨k,hk⟩ : ∃ k : Nat,way / 2 % 3 = (k : Int) := ⟨(way / 2 % 3).toNat,by exact o149 h0⟩
    unfold tOf
    rw [hk] at h3 ⊢
    have : k = 0∨k = 1∨k = 2 := by exact o150 h3
    have hz3 : ([.str [32],.str [9],.str [13]] : List V).length≤szL := by decide
    rcases this with rfl | rfl | rfl
    · exact ⟨32,by rfl,fun g => by simp only [jg,jm,zzz,if_pos hz3]; rfl⟩
    · exact ⟨9,by rfl,fun g => by simp only [jg,jm,zzz,if_pos hz3]; rfl⟩
    · exact ⟨13,by rfl,fun g => by simp only [jg,jm,zzz,if_pos hz3]; rfl⟩
  have a2 := addS (a := (w.map fun s => if s ∈ [34,92,32] then [92,s] else [s]).flatten) (b := [t]) (by simp only [List.length_cons,List.length_nil]; exact o151 hz hfl)
  have h3 : (3 : Nat)≤szL := by decide
  refine ⟨(.lst ((w.map fun s => if s ∈ [34,92,32] then [92,s] else [s]).map V.str) :: junk)++[.lst [.str [32],.str [9],.str [13]]],?_⟩
  rw [← ht]
  rw [← List.append_assoc]
  refine qm (st := ⟨[some (.str w),some (.int way)],(g++.lst ((w.map fun s => if s ∈ [34,92,32] then [92,s] else [s]).map V.str) :: junk)++[.lst [.str [32],.str [9],.str [13]]]⟩) _ rfl rfl ?_
  · simp only [wn,List.length_cons,List.length_nil,List.append_nil,List.map_cons,List.map_nil,Nat.reduceAdd,Nat.reduceSub,List.replicate,List.cons_append,List.nil_append]
    simp? only [e1,e2,zao,if_true,e,hj,List.length_cons,List.length_nil,Nat.reduceAdd,h3,e3,e4,e5,a2]
    have : escb w = (w.map fun s => if s ∈ [34,92,32] then [92,s] else [s]).flatten := by simp [escb,List.flatMap]
    rw [this]
noncomputable def spell (w : List Nat) (way : Int) : List Nat := if way % 2 = 0 then 34 :: (escq w++[34]) else escb w++[tOf way]
theorem zg2 (n : Nat) (w : List Nat) (way : Int) (hn : w.length < n) (hz : w.length≤900) (g : List LObj) : ∃ junk,jj n [.str w,.int way] g = some (.str (spell w way),g++junk) := by
  unfold spell
  by_cases q : way % 2 = 0
  · rw [if_pos q]; exact zfp n w way q hn hz g
  · rw [if_neg q]; exact zg3 n w way q hn hz g
theorem tOf_ws (way : Int) : tOf way ∈ [10,9,13,32]∧tOf way≠10 := by
  unfold tOf
  have h0 := Int.emod_nonneg (way / 2) (show (3 : Int)≠0 by decide)
  have h3 := Int.emod_lt_of_pos (way / 2) (show (0 : Int) < 3 by decide)
  obtain ⟨k,hk⟩ : ∃ k : Nat,way / 2 % 3 = (k : Int) := ⟨(way / 2 % 3).toNat,by exact o149 h0⟩
  rw [hk] at h3 ⊢
  have : k = 0∨k = 1∨k = 2 := by exact o152 h0 hk
  rcases this with rfl | rfl | rfl <;> simp
end Mine
end
section
namespace Mine
open PySem PyProof.Rows
noncomputable abbrev b62 : List Nat := [65,66,67,68,69,70,71,72,73,74,75,76,77,78,79,80,81,82,83,84,85,86,87,88,89,90,97,98,99,100,101,102,103,104,105,106,107,108,109,110,111,112,113,114,115,116,117,118,119,120,121,122,48,49,50,51,52,53,54,55,56,57]
noncomputable def sgn (p0 p1 : Nat) : List Nat := b62++[p0]++[p1]
noncomputable def sg1 (p0 p1 k : Nat) : Nat := (sgn p0 p1).getD k 0
noncomputable def wrd (p0 p1 a b c : Nat) : List Nat := [sg1 p0 p1 (a / 4),sg1 p0 p1 (a % 4 * 16 + b / 16),sg1 p0 p1 (b % 16 * 4 + c / 64),sg1 p0 p1 (c % 64)]
theorem zg9 (p0 p1 : Nat) : (sgn p0 p1).length = 64 := by simp [sgn]
theorem item_sgn (p0 p1 k : Nat) (hk : k < 64) (g : List LObj) : jg g (.str (sgn p0 p1)) (.int (k : Int)) = some (.str [sg1 p0 p1 k]) := by
  unfold jg
  simp only
  rw [if_pos ⟨by exact o26 hk,by rw [zg9]; decide⟩,Int.toNat_natCast,List.getElem?_eq_getElem (by rw [zg9]; exact hk)]
  unfold sg1
  rw [List.getD_eq_getElem?_getD,List.getElem?_eq_getElem (by rw [zg9]; exact hk)]
  rfl
theorem u8 {a : Nat} (h : a < 256) : a.toUInt8.toNat = a := UInt8.toNat_ofNat_of_lt' (by simpa using h)
theorem zgo (n : Nat) (hn : 8 < n) (p0 p1 a b c : Nat) (ha : a < 256) (hb : b < 256) (hc : c < 256) (x2 x4 x5 x6 x7 : Option V) (o1 : Option V) (g : List LObj) :
    forS n (ldE 0) (stS 4) (seqS (asgS 3 (binE addV (binE mulV (ldE 3) (zd (.int 256))) (ldE 4))) zm) ⟨[some (.bytes [a.toUInt8,b.toUInt8,c.toUInt8]),o1,x2,some (.int 0),x4,x5,x6,x7],g⟩ =
      some (.next,⟨[some (.bytes [a.toUInt8,b.toUInt8,c.toUInt8]),o1,x2,some (.int ((a * 65536 + b * 256 + c : Nat) : Int)),some (.int (c : Int)),x5,x6,x7],g⟩) := by
  obtain ⟨m,rfl⟩ : ∃ m,n = m + 4 := ⟨n - 4,by exact o153 hn⟩
  have hm : ∀ x : Int,mulV (.int x) (.int 256) = some (.int (x * 256)) := fun x => by unfold mulV; simp only; rw [if_pos (by decide)]
  rw [zhv]
  try dsimp? only [zj]
  dsimp? only [qn,zzs,zzz,vu,List.map_cons,List.map_nil,u8 ha,u8 hb,u8 hc]
  have st : ∀ (x v : Int) (y : Option V),zw (stS 4 (.int v)) (fun _ => seqS (asgS 3 (binE addV (binE mulV (ldE 3) (zd (.int 256))) (ldE 4))) zm) ⟨[some (.bytes [a.toUInt8,b.toUInt8,c.toUInt8]),o1,x2,some (.int x),y,x5,x6,x7],g⟩ = some (.next,⟨[some (.bytes [a.toUInt8,b.toUInt8,c.toUInt8]),o1,x2,some (.int (x * 256 + v)),some (.int v),x5,x6,x7],g⟩) := fun x v y => by
    simp? only [hm,addV]
  rw [jv]
  try dsimp? only [zj]
  simp only [Src.get,zzz,st]
  rw [jv]
  try dsimp? only [zj]
  simp only [Src.get,zzz,zzs,st]
  rw [jv]
  try dsimp? only [zj]
  simp only [Src.get,zzz,zzs,st]
  rw [jv]
  try dsimp? only [zj]
  have : ((0 * 256 + (a : Int)) * 256 + b) * 256 + c = ((a * 65536 + b * 256 + c : Nat) : Int) := by exact o154
  rw [this]
  rfl
theorem zgn (n : Nat) (hn : 8 < n) (p0 p1 a b c : Nat) (h0 : p0 < 256) (h1 : p1 < 256) (ha : a < 256) (hb : b < 256) (hc : c < 256) (g : List LObj) :
    ∃ junk,ka n [.bytes [a.toUInt8,b.toUInt8,c.toUInt8],.bytes [p0.toUInt8,p1.toUInt8]] g = some (.str (wrd p0 p1 a b c),g++junk) := by
  let N := a * 65536 + b * 256 + c
  let L : List (Option V) := [some (.bytes [a.toUInt8,b.toUInt8,c.toUInt8]),some (.bytes [p0.toUInt8,p1.toUInt8]),some (.str (sgn p0 p1)),some (.int (N : Int)),some (.int (c : Int)),some (.int 0),some (.int 4),none]
  let res : V→Option V := fun v => match v with
    | .int j => some (.str [sg1 p0 p1 (N / 64 ^ (3 - j.toNat) % 64)])
    | _ => none
  have hr : wi 0 4 = [.int 0,.int 1,.int 2,.int 3] := rfl
  have hs : vu g (.rng 0 4) = some (.vals [.int 0,.int 1,.int 2,.int 3]) := by
    unfold vu; simp only; rw [if_pos (by decide),hr]
  have step : ∀ (j : Int) (k M : Nat) (hj : (4 : Int) - 1 - j = (k : Int)) (hk : k≤3) (hM : M = 64 ^ k) (g : List LObj),
      (zu (ldE 3) (binE modV (binE divV (ldE 2) (binE powV (zd (.int 64)) (binE subV (binE subV (ldE 1) (zd (.int 1))) (ldE 0)))) (zd (.int 64)))) ⟨[some (.int j),some (.int 4),some (.int (N : Int)),some (.str (sgn p0 p1))],g⟩ = some (.str [sg1 p0 p1 (N / M % 64)],⟨[some (.int j),some (.int 4),some (.int (N : Int)),some (.str (sgn p0 p1))],g⟩) := by
    intro j k M hj hk hM g
    have e1 : powV (.int 64) (.int (k : Int)) = some (.int (M : Int)) := by
      unfold powV; simp only; rw [if_pos ⟨by exact o155 hk,by exact o156 hk,by decide,by decide⟩,Int.toNat_natCast,hM]; push_cast; rfl
    have hMb : 0 < M∧M < 1073741824 := by
      have : k = 0∨k = 1∨k = 2∨k = 3 := by exact o157 hk
      rcases this with rfl | rfl | rfl | rfl <;> simp [hM]
    have e2 : divV (.int (N : Int)) (.int (M : Int)) = some (.int ((N / M : Nat) : Int)) := by
      unfold divV; simp only; rw [if_pos ⟨by exact o158 hM hMb,by exact o159 hM hMb⟩]; push_cast; rfl
    have e3 : modV (.int ((N / M : Nat) : Int)) (.int 64) = some (.int ((N / M % 64 : Nat) : Int)) := by
      unfold modV; simp only; rw [if_pos (by decide)]; push_cast; rfl
    have e4 := item_sgn p0 p1 (N / M % 64) (Nat.mod_lt _ (by decide)) g
    simp? only [subV,hj,e1,e2,e3,e4]
  obtain ⟨junk,e⟩ := ue (g := g) (src := .vals [.int 0,.int 1,.int 2,.int 3]) (vs := [.int 0,.int 1,.int 2,.int 3]) (k := 1) (cap := [6,3,2]) (asg := stS 0) (test := yesT) (elt := (zu (ldE 3) (binE modV (binE divV (ldE 2) (binE powV (zd (.int 64)) (binE subV (binE subV (ldE 1) (zd (.int 1))) (ldE 0)))) (zd (.int 64))))) (f := zr j7 (zl (ldE 6) nilL)) (v := .rng 0 4) (loc := L) (n := n) res (by simp? only [L,j7]) hs za3 (by decide) (by simp; exact o160 hn) (by
    intro v hv o x junk ho
    obtain ⟨o0,rfl⟩ : ∃ o0,o = [o0] := by rcases o with _ | ⟨a,_ | ⟨b,r⟩⟩ <;> simp at ho; exact ⟨a,rfl⟩
    refine ⟨[some v],[],rfl,rfl,?_⟩
    simp only [List.mem_cons,List.not_mem_nil,or_false] at hv
    simp only [List.append_nil]
    rcases hv with rfl | rfl | rfl | rfl
    · exact ⟨rfl,step 0 3 (64 ^ 3) (by omega) (o161) rfl _⟩
    · exact ⟨rfl,step 1 2 (64 ^ 2) (by omega) (o162) rfl _⟩
    · exact ⟨rfl,step 2 1 (64 ^ 1) (by omega) (o163) rfl _⟩
    · exact ⟨rfl,step 3 0 (64 ^ 0) (by omega) (o164) rfl _⟩)
  have hres : ([.int 0,.int 1,.int 2,.int 3] : List V).filterMap res = ((wrd p0 p1 a b c).map fun x => [x]).map V.str := by
    have d0 : N / 64 ^ 3 % 64 = a / 4 := by show (a * 65536 + b * 256 + c) / 262144 % 64 = a / 4; exact o165 ha hb hc
    have d1 : N / 64 ^ 2 % 64 = a % 4 * 16 + b / 16 := by show (a * 65536 + b * 256 + c) / 4096 % 64 = _; exact o166 hb hc d0
    have d2 : N / 64 ^ 1 % 64 = b % 16 * 4 + c / 64 := by show (a * 65536 + b * 256 + c) / 64 % 64 = _; exact o167 hc d1
    have d3 : N / 64 ^ 0 % 64 = c % 64 := by show (a * 65536 + b * 256 + c) / 1 % 64 = _; exact o168
    show [V.str [sg1 p0 p1 (N / 64 ^ 3 % 64)],V.str [sg1 p0 p1 (N / 64 ^ 2 % 64)],V.str [sg1 p0 p1 (N / 64 ^ 1 % 64)],V.str [sg1 p0 p1 (N / 64 ^ 0 % 64)]] = _
    rw [d0,d1,d2,d3]; rfl
  rw [hres] at e
  have hj := zhq (g := g++.lst (((wrd p0 p1 a b c).map fun x => [x]).map V.str) :: junk) (i := g.length) (jm _ _) (by simp [wrd])
  have hfl : ((wrd p0 p1 a b c).map fun x => [x]).flatten = wrd p0 p1 a b c := by simp [wrd]
  rw [hfl] at hj
  have i0 : ∀ g : List LObj,jg g (.bytes [p0.toUInt8,p1.toUInt8]) (.int 0) = some (.int (p0 : Int)) := fun g => by
    unfold jg; simp only; rw [if_pos ⟨by decide,by simp; decide⟩]; simp [u8 h0]
  have i1 : ∀ g : List LObj,jg g (.bytes [p0.toUInt8,p1.toUInt8]) (.int 1) = some (.int (p1 : Int)) := fun g => by
    unfold jg; simp only; rw [if_pos ⟨by decide,by simp; decide⟩]; simp [u8 h1]
  have c0 : ∀ g : List LObj,chrF [.int (p0 : Int)] g = some (.str [p0],g) := fun g => by unfold chrF; simp only; rw [if_pos ⟨by exact o169 h0,by exact o170 h0⟩]; rfl
  have c1 : ∀ g : List LObj,chrF [.int (p1 : Int)] g = some (.str [p1],g) := fun g => by unfold chrF; simp only; rw [if_pos ⟨by exact o169 h1,by exact o170 h1⟩]; rfl
  have a0 := addS (a := b62) (b := [p0]) (by simp)
  have a1 := addS (a := b62++[p0]) (b := [p1]) (by simp)
  have l3 : ∀ g : List LObj,lenF [.bytes [a.toUInt8,b.toUInt8,c.toUInt8]] g = some (.int 3,g) := fun g => by unfold lenF; simp only; rw [if_pos (by simp; decide)]; rfl
  have m0 : modV (.int (0 - 3)) (.int 3) = some (.int 0) := by unfold modV; simp only; rw [if_pos (by decide)]; rfl
  have w0 : powV (.int 256) (.int 0) = some (.int 1) := by unfold powV; simp only; rw [if_pos (by decide)]; rfl
  have m1 : mulV (.int (N : Int)) (.int 1) = some (.int (N : Int)) := by unfold mulV; simp only; rw [if_pos (by decide)]; simp
  have v0 : divV (.int (3 + 0)) (.int 3) = some (.int 1) := by unfold divV; simp only; rw [if_pos (by decide)]; rfl
  have m2 : mulV (.int 1) (.int 4) = some (.int 4) := by unfold mulV; simp only; rw [if_pos (by decide)]; rfl
  have up : ∀ g : List LObj,zfj g (.str (wrd p0 p1 a b c)) (.int (4 - 0)) = some (.str (wrd p0 p1 a b c),g) := fun g => by
    unfold zfj; simp only; rw [if_pos ⟨by decide,by simp [wrd],by simp [wrd]; decide⟩]; rfl
  have m3 : mulV (.str [61]) (.int 0) = some (.str []) := by unfold mulV; simp only; rw [if_pos (by decide)]; rfl
  have a2 := addS (a := wrd p0 p1 a b c) (b := []) (by simp [wrd])
  rw [List.append_nil] at a2
  refine ⟨.lst (((wrd p0 p1 a b c).map fun x => [x]).map V.str) :: junk,qm (st := ⟨L.set 7 (some (.str (wrd p0 p1 a b c))),g++.lst (((wrd p0 p1 a b c).map fun x => [x]).map V.str) :: junk⟩) _ rfl rfl ?_⟩
  simp only [y5,List.length_cons,List.length_nil,List.append_nil,List.map_cons,List.map_nil,Nat.reduceAdd,Nat.reduceSub,List.replicate,List.cons_append,List.nil_append]
  have num := zgo n hn p0 p1 a b c ha hb hc (some (.str (sgn p0 p1))) none none none none (some (.bytes [p0.toUInt8,p1.toUInt8])) g
  have e' : kb n (zr j7 (zl (ldE 6) nilL)) 1 [6,3,2] (stS 0) yesT (zu (ldE 3) (binE modV (binE divV (ldE 2) (binE powV (zd (.int 64)) (binE subV (binE subV (ldE 1) (zd (.int 1))) (ldE 0)))) (zd (.int 64)))) ⟨[some (.bytes [a.toUInt8,b.toUInt8,c.toUInt8]),some (.bytes [p0.toUInt8,p1.toUInt8]),some (.str (sgn p0 p1)),some (.int (N : Int)),some (.int (c : Int)),some (.int 0),some (.int 4),none],g⟩ = _ := e
  rw [zq,qv,ww,ww]
  try dsimp? only [zj]
  simp? only [i0,i1,c0,c1,a0,a1]
  rw [show (b62++[p0]++[p1]) = sgn p0 p1 from rfl,num]
  simp? only [l3,subV,m0,w0,show mulV (.int ((a * 65536 + b * 256 + c : Nat) : Int)) (.int 1) = some (.int (N : Int)) from m1,show addV (.int 3) (.int 0) = some (.int (3 + 0)) from rfl,v0,m2,zao,if_true]
  rw [e']
  simp? only [hj,subV,up,m3,a2,L]
noncomputable def pairs : List (Nat × Nat) := [(43,47),(34,32),(92,34),(32,92),(45,95)]
theorem enc_tab : ∀ p ∈ pairs,(vh [43,47] [p.1.toUInt8,p.2.toUInt8]).length = 256∧∀ k,k < 64→(vh [43,47] [p.1.toUInt8,p.2.toUInt8]).getD (e64 k).toNat (e64 k) = (sg1 p.1 p.2 k).toUInt8 := by decide +kernel
theorem dec_tab : ∀ p ∈ pairs,(vh [p.1.toUInt8,p.2.toUInt8] [43,47]).length = 256∧∀ k,k < 64→(vh [p.1.toUInt8,p.2.toUInt8] [43,47]).getD (sg1 p.1 p.2 k).toUInt8.toNat (sg1 p.1 p.2 k).toUInt8 = e64 k := by decide +kernel
theorem zig : ∀ p ∈ pairs,∀ k,k < 64→sg1 p.1 p.2 k < 256∧sg1 p.1 p.2 k ∉ [10,9,13] := by decide +kernel
theorem zhd : ∀ p ∈ pairs,p.1 < 256∧p.2 < 256 := by decide
theorem zjh (n : Nat) (hn : 8 < n) (p : Nat × Nat) (hp : p ∈ pairs) (a b c : Nat) (ha : a < 256) (hb : b < 256) (hc : c < 256) (g : List LObj) :
    ∃ junk,kl n [.bytes [a.toUInt8,b.toUInt8,c.toUInt8],.bytes [p.1.toUInt8,p.2.toUInt8]] g = some (.bytes ((wrd p.1 p.2 a b c).map (·.toUInt8)),g++junk) := by
  obtain ⟨m,rfl⟩ : ∃ m,n = m + 5 := ⟨n - 5,by exact o171 hn⟩
  obtain ⟨junk,e⟩ := b2a_run m a b c ha hb hc g
  obtain ⟨t1,t2⟩ := enc_tab p hp
  have mk : ∀ g : List LObj,kf [.bytes [43,47],.bytes [p.1.toUInt8,p.2.toUInt8]] g = some (.bytes (vh [43,47] [p.1.toUInt8,p.2.toUInt8]),g) := fun g => rfl
  have tr : ∀ g : List LObj,j6 [.bytes [e64 (a / 4),e64 (a % 4 * 16 + b / 16),e64 (b % 16 * 4 + c / 64),e64 (c % 64)],.bytes (vh [43,47] [p.1.toUInt8,p.2.toUInt8])] g = some (.bytes ((wrd p.1 p.2 a b c).map (·.toUInt8)),g) := fun g => by
    simp only [j6]
    rw [if_pos ⟨t1,by simp; decide⟩]
    simp only [trL,List.map_cons,List.map_nil,wrd]
    rw [t2 _ (o172 ha),t2 _ (o173 hb),t2 _ (o174 hc),t2 _ (o175)]
  have i1 : ∀ g : List LObj,zf3 g (.bytes [p.1.toUInt8,p.2.toUInt8]) .none = some true := fun g => rfl
  have l2 : ∀ g : List LObj,lenF [.bytes [p.1.toUInt8,p.2.toUInt8]] g = some (.int 2,g) := fun g => by unfold lenF; simp only; rw [if_pos (by simp; decide)]; rfl
  have e2 : ∀ g : List LObj,eqV g (.int 2) (.int 2) = some true := fun g => rfl
  refine ⟨junk,qm (st := ⟨[some (.bytes [a.toUInt8,b.toUInt8,c.toUInt8]),some (.bytes [p.1.toUInt8,p.2.toUInt8]),some (.bytes [e64 (a / 4),e64 (a % 4 * 16 + b / 16),e64 (b % 16 * 4 + c / 64),e64 (c % 64)])],g++junk⟩) _ rfl rfl ?_⟩
  simp only [zcj,List.length_cons,List.length_nil,List.append_nil,List.map_cons,List.map_nil,Nat.reduceAdd,Nat.reduceSub,List.replicate,List.cons_append,List.nil_append]
  simp? only [e,i1,l2,e2,ya,if_true,mk,tr]
theorem e64_val : ∀ d,d < 64→(e64 d).toNat = if d < 26 then 65 + d else if d < 52 then 71 + d else if d < 62 then d - 4 else if d = 62 then 43 else 47 := by decide
theorem leI (g : List LObj) (a b : Int) : leV g (.int a) (.int b) = some (decide (a≤b)) := rfl
theorem eqI' (g : List LObj) (a b : Int) : eqV g (.int a) (.int b) = some (a == b) := rfl
theorem zj0 (n : Nat) (d : Nat) (hd : d < 64) (g : List LObj) : vm n [.int ((e64 d).toNat : Int)] g = some (.int (d : Int),g) := by
  have hv := e64_val d hd
  generalize (e64 d).toNat = v at hv
  refine qm (st := ⟨[some (.int (v : Int))],g⟩) _ rfl rfl ?_
  simp only [zcl,List.length_cons,List.length_nil,List.append_nil,List.map_cons,List.map_nil,Nat.reduceAdd,Nat.reduceSub,List.replicate,List.cons_append,List.nil_append]
  have lt {a b : Int} (h : a≤b) : ∀ g : List LObj,leV g (.int a) (.int b) = some true := fun g => zhm h
  have lf {a b : Int} (h : ¬ a≤b) : ∀ g : List LObj,leV g (.int a) (.int b) = some false := fun g => zhn h
  by_cases q1 : d < 26
  · rw [if_pos q1] at hv
    simp? only [lt (show (65 : Int)≤(v : Int) by exact o176 hd hv q1),lt (show (v : Int)≤90 by exact o177 hd hv q1),subV]
    rw [show (v : Int) - 65 = (d : Int) by exact o178 hv]
  · rw [if_neg q1] at hv
    by_cases q2 : d < 52
    · rw [if_pos q2] at hv
      simp? only [lt (show (65 : Int)≤(v : Int) by exact o179 hd hv q1 q2),lf (show ¬ (v : Int)≤90 by exact o180 hd hv q1 q2),lt (show (97 : Int)≤(v : Int) by exact o181 hd hv q1 q2),lt (show (v : Int)≤122 by exact o182 hd hv q1 q2),subV]
      rw [show (v : Int) - 71 = (d : Int) by exact o183 hv]
    · rw [if_neg q2] at hv
      by_cases q3 : d < 62
      · rw [if_pos q3] at hv
        simp? only [lf (show ¬ (65 : Int)≤(v : Int) by exact o184 hd hv q1 q2 q3),lf (show ¬ (97 : Int)≤(v : Int) by exact o185 hd hv q1 q2 q3),lt (show (48 : Int)≤(v : Int) by exact o186 hd hv q1 q2 q3),lt (show (v : Int)≤57 by exact o187 hd hv q1 q2 q3),addV]
        rw [show (v : Int) + 4 = (d : Int) by exact o188 hd hv q1 q2 q3]
      · rw [if_neg q3] at hv
        by_cases q4 : d = 62
        · rw [if_pos q4] at hv
          subst hv q4
          rfl
        · rw [if_neg q4] at hv
          have : d = 63 := by exact o189 hd q1 q2 q3 q4
          subst hv this
          rfl
end Mine
end
section
namespace Mine
open PySem PyProof.Rows
noncomputable abbrev aQ : LM Fl := (iteL (cmpT eqV (ldE 4) (zd (.int 0))) (seqS (asgS 4 (zd (.int 1))) (seqS (asgS 5 (ldE 8)) zm)) (seqS (iteL (cmpT eqV (ldE 4) (zd (.int 1))) (seqS (asgS 4 (zd (.int 2))) (seqS (ja (q5 qf zt (ldE 3) (zl (binE orV (binE shlV (ldE 5) (zd (.int 2))) (binE shrV (ldE 8) (zd (.int 4)))) nilL))) (seqS (asgS 5 (binE andV (ldE 8) (zd (.int 15)))) zm))) (seqS (iteL (cmpT eqV (ldE 4) (zd (.int 2))) (seqS (asgS 4 (zd (.int 3))) (seqS (ja (q5 qf zt (ldE 3) (zl (binE orV (binE shlV (ldE 5) (zd (.int 4))) (binE shrV (ldE 8) (zd (.int 2)))) nilL))) (seqS (asgS 5 (binE andV (ldE 8) (zd (.int 3)))) zm))) (seqS (asgS 4 (zd (.int 0))) (seqS (ja (q5 qf zt (ldE 3) (zl (binE orV (binE shlV (ldE 5) (zd (.int 6))) (ldE 8)) nilL))) (seqS (asgS 5 (zd (.int 0))) zm)))) zm)) zm))
noncomputable abbrev aB (n : Nat) : LM Fl := (seqS (iteL (cmpT eqV (ldE 8) (zd (.int 61))) (seqS (asgS 6 (binE addV (ldE 6) (zd (.int 1)))) (seqS (iteL (andT (cmpT geV (ldE 4) (zd (.int 2))) (cmpT leV (binE addV (ldE 4) (ldE 6)) (zd (.int 4)))) (seqS (asgS 7 (binE addV (ldE 7) (zd (.int 1)))) (seqS za0 zm)) zm) (seqS (iteL (notT (truT truV (ldE 1))) (seqS (asgS 7 (binE addV (ldE 7) (zd (.int 1)))) (seqS za0 zm)) zm) (seqS (iteL (cmpT eqV (ldE 4) (zd (.int 1))) (seqS brkS zm) zm) (seqS (iteL (andT (cmpT eqV (ldE 4) (zd (.int 0))) (cmpT eqV (ldE 7) (zd (.int 0)))) (seqS kj zm) zm) (seqS kj zm)))))) zm) (seqS (asgS 8 (zr (vm n) (zl (ldE 8) nilL))) (seqS (iteL (cmpT geV (ldE 8) (zd (.int 64))) (seqS (iteL (truT truV (ldE 1)) (seqS kj zm) zm) (seqS (asgS 7 (binE addV (ldE 7) (zd (.int 1)))) (seqS za0 zm))) zm) (seqS (iteL (andT (truT truV (ldE 6)) (truT truV (ldE 1))) (seqS (iteL (cmpT eqV (binE addV (ldE 4) (ldE 6)) (zd (.int 4))) (seqS kj zm) zm) (seqS kj zm)) zm) (seqS (asgS 6 (zd (.int 0))) (seqS aQ (seqS (asgS 7 (binE addV (ldE 7) (zd (.int 1)))) zm)))))))
theorem e64_ne61 : ∀ d,d < 64→(e64 d).toNat≠61 := by decide
theorem zfe (n d : Nat) (hd : d < 64) (d0 d2 d3 x : Option V) (q i : Int) (l : Nat) (g : List LObj) {st' : St}
    (h : aQ ⟨[d0,some (.bool false),d2,d3,some (.int q),some (.int (l : Int)),some (.int 0),some (.int i),some (.int (d : Int))],g⟩ = some (.next,st')) {i' : Int} (hi : st'.loc[7]? = some (some (.int i'))) :
    zw (stS 8 (.int ((e64 d).toNat : Int))) (fun _ => aB n) ⟨[d0,some (.bool false),d2,d3,some (.int q),some (.int (l : Int)),some (.int 0),some (.int i),x],g⟩ = some (.next,⟨st'.loc.set 7 (some (.int (i' + 1))),st'.g⟩) := by
  have e1 : ∀ g : List LObj,eqV g (.int ((e64 d).toNat : Int)) (.int 61) = some false := fun g => by have := e64_ne61 d hd; rw [eqI']; congr 1; simp; exact o190 this
  have e2 : ∀ g : List LObj,geV g (.int (d : Int)) (.int 64) = some false := fun g => geI_f (o191 hd)
  have e3 : ∀ g : List LObj,truV g (.int 0) = some false := fun g => rfl
  obtain ⟨loc,g'⟩ := st'
  simp only at hi
  rw [vp,yy]
  try dsimp? only [zj]
  simp only [zts,ztz]
  unfold aB
  rw [zq,jz,jp]
  try dsimp? only [zj]
  dsimp? only [qn,qb,zzs,zzz,e1,zj]
  rw [zq,qv,vt,jw]
  try dsimp? only [zj]
  dsimp? only [qn,j9,zzs,zzz,zj0 n d hd,zts,ztz]
  rw [zq,jz,jp]
  try dsimp? only [zj]
  dsimp? only [qn,qb,zzs,zzz,e2,zj]
  rw [zq,jz,zcq,zkb]
  try dsimp? only [zj]
  dsimp? only [qn,qb,zzs,zzz,e3,zj]
  rw [zq,qv]
  try dsimp? only [zj]
  dsimp? only [qb,zts,ztz]
  rw [zq,h]
  try dsimp? only [zj]
  simp? only [hi,addV]
theorem or_sum (l d k M j J : Nat) (hM : M = 2 ^ k) (hJ : J = 2 ^ j) (hk : k≤64) (hj : j≤64) (hl : l < 65536) (hd : d / J < M) (g : List LObj) (d0 d1 d2 d3 d4 d6 d7 : Option V) (a b : Int) (ha : a = (k : Int)) (hb : b = (j : Int)) :
    (binE orV (binE shlV (ldE 5) (zd (.int a))) (binE shrV (ldE 8) (zd (.int b)))) ⟨[d0,d1,d2,d3,d4,some (.int (l : Int)),d6,d7,some (.int (d : Int))],g⟩ = some (.int ((l * M + d / J : Nat) : Int),⟨[d0,d1,d2,d3,d4,some (.int (l : Int)),d6,d7,some (.int (d : Int))],g⟩) := by
  have e1 := zg8 l k M a ha hk hM hl
  have e2 := zkm d j J b hb hj hJ
  have e3 := zef l (d / J) k M hM hd
  dsimp? only [ww,qn,qb,zzs,zzz,e1,e2,orV,e3]
theorem or_sum' (l d k M : Nat) (hM : M = 2 ^ k) (hk : k≤64) (hl : l < 65536) (hd : d < M) (g : List LObj) (d0 d1 d2 d3 d4 d6 d7 : Option V) (a : Int) (ha : a = (k : Int)) :
    (binE orV (binE shlV (ldE 5) (zd (.int a))) (ldE 8)) ⟨[d0,d1,d2,d3,d4,some (.int (l : Int)),d6,d7,some (.int (d : Int))],g⟩ = some (.int ((l * M + d : Nat) : Int),⟨[d0,d1,d2,d3,d4,some (.int (l : Int)),d6,d7,some (.int (d : Int))],g⟩) := by
  have e1 := zg8 l k M a ha hk hM hl
  have e3 := zef l d k M hM hd
  dsimp? only [ww,qn,qb,zzs,zzz,e1,orV,e3]
theorem isLA0 {g : List LObj} {o : List V} : qf (g++[.lst o]) (.ref g.length) = true := by simp only [qf,jm,zzz]
theorem aQ0 (d l : Nat) (d0 d1 d2 d3 d6 d7 : Option V) (g : List LObj) :
    aQ ⟨[d0,d1,d2,d3,some (.int 0),some (.int (l : Int)),d6,d7,some (.int (d : Int))],g⟩ = some (.next,⟨[d0,d1,d2,d3,some (.int 1),some (.int (d : Int)),d6,d7,some (.int (d : Int))],g⟩) := by
  have e : ∀ g : List LObj,eqV g (.int 0) (.int 0) = some true := fun g => rfl
  unfold aQ
  simp? only [e]
theorem aQ1 (d l : Nat) (hd : d < 64) (hl : l < 64) (d0 d1 d2 d6 d7 : Option V) (g : List LObj) (o : List V) (ho : o.length < 1000) :
    aQ ⟨[d0,d1,d2,some (.ref g.length),some (.int 1),some (.int (l : Int)),d6,d7,some (.int (d : Int))],g++[.lst o]⟩ = some (.next,⟨[d0,d1,d2,some (.ref g.length),some (.int 2),some (.int ((d % 16 : Nat) : Int)),d6,d7,some (.int (d : Int))],g++[.lst (o++[.int ((l * 4 + d / 16 : Nat) : Int)])]⟩) := by
  have e0 : ∀ g : List LObj,eqV g (.int 1) (.int 0) = some false := fun g => rfl
  have e1 : ∀ g : List LObj,eqV g (.int 1) (.int 1) = some true := fun g => rfl
  have h := or_sum l d 2 4 4 16 (by decide) (by decide) (by decide) (by decide) (o192 hl) (o193 hd) (g++[.lst o]) d0 d1 d2 (some (.ref g.length)) (some (.int 2)) d6 d7 2 4 rfl rfl
  have m := zbb d 4 16 15 (by decide) (by decide)
  unfold aQ
  rw [jz,jp]
  try dsimp? only [zj]
  dsimp? only [qn,qb,zzs,zzz,e0]
  rw [zq,jz,jp]
  try dsimp? only [zj]
  dsimp? only [qn,qb,zzs,zzz,e1]
  rw [zq,qv]
  try dsimp? only [zj]
  dsimp? only [qb,zts,ztz]
  rw [zq,wv,wm]
  try dsimp? only [zj]
  dsimp? only [qn,zzs,zzz,isLA0,if_true]
  rw [jw,h]
  try dsimp? only [zj]
  simp? only [appA0 _ ho,andV,m]
theorem aQ2 (d l : Nat) (hd : d < 64) (hl : l < 64) (d0 d1 d2 d6 d7 : Option V) (g : List LObj) (o : List V) (ho : o.length < 1000) :
    aQ ⟨[d0,d1,d2,some (.ref g.length),some (.int 2),some (.int (l : Int)),d6,d7,some (.int (d : Int))],g++[.lst o]⟩ = some (.next,⟨[d0,d1,d2,some (.ref g.length),some (.int 3),some (.int ((d % 4 : Nat) : Int)),d6,d7,some (.int (d : Int))],g++[.lst (o++[.int ((l * 16 + d / 4 : Nat) : Int)])]⟩) := by
  have e0 : ∀ g : List LObj,eqV g (.int 2) (.int 0) = some false := fun g => rfl
  have e1 : ∀ g : List LObj,eqV g (.int 2) (.int 1) = some false := fun g => rfl
  have e2 : ∀ g : List LObj,eqV g (.int 2) (.int 2) = some true := fun g => rfl
  have h := or_sum l d 4 16 2 4 (by decide) (by decide) (by decide) (by decide) (o192 hl) (o194 hd) (g++[.lst o]) d0 d1 d2 (some (.ref g.length)) (some (.int 3)) d6 d7 4 2 rfl rfl
  have m := zbb d 2 4 3 (by decide) (by decide)
  unfold aQ
  rw [jz,jp]
  try dsimp? only [zj]
  dsimp? only [qn,qb,zzs,zzz,e0]
  rw [zq,jz,jp]
  try dsimp? only [zj]
  dsimp? only [qn,qb,zzs,zzz,e1]
  rw [zq,jz,jp]
  try dsimp? only [zj]
  dsimp? only [qn,qb,zzs,zzz,e2]
  rw [zq,qv]
  try dsimp? only [zj]
  dsimp? only [qb,zts,ztz]
  rw [zq,wv,wm]
  try dsimp? only [zj]
  dsimp? only [qn,zzs,zzz,isLA0,if_true]
  rw [jw,h]
  try dsimp? only [zj]
  simp? only [appA0 _ ho,andV,m]
theorem aQ3 (d l : Nat) (hd : d < 64) (hl : l < 64) (d0 d1 d2 d6 d7 : Option V) (g : List LObj) (o : List V) (ho : o.length < 1000) :
    aQ ⟨[d0,d1,d2,some (.ref g.length),some (.int 3),some (.int (l : Int)),d6,d7,some (.int (d : Int))],g++[.lst o]⟩ = some (.next,⟨[d0,d1,d2,some (.ref g.length),some (.int 0),some (.int 0),d6,d7,some (.int (d : Int))],g++[.lst (o++[.int ((l * 64 + d : Nat) : Int)])]⟩) := by
  have e0 : ∀ g : List LObj,eqV g (.int 3) (.int 0) = some false := fun g => rfl
  have e1 : ∀ g : List LObj,eqV g (.int 3) (.int 1) = some false := fun g => rfl
  have e2 : ∀ g : List LObj,eqV g (.int 3) (.int 2) = some false := fun g => rfl
  have h := or_sum' l d 6 64 (by decide) (by decide) (o192 hl) (o195 hd) (g++[.lst o]) d0 d1 d2 (some (.ref g.length)) (some (.int 0)) d6 d7 6 rfl
  unfold aQ
  rw [jz,jp]
  try dsimp? only [zj]
  dsimp? only [qn,qb,zzs,zzz,e0]
  rw [zq,jz,jp]
  try dsimp? only [zj]
  dsimp? only [qn,qb,zzs,zzz,e1]
  rw [zq,jz,jp]
  try dsimp? only [zj]
  dsimp? only [qn,qb,zzs,zzz,e2]
  rw [zq,qv]
  try dsimp? only [zj]
  dsimp? only [qb,zts,ztz]
  rw [zq,wv,wm]
  try dsimp? only [zj]
  dsimp? only [qn,zzs,zzz,isLA0,if_true]
  rw [jw,h]
  try dsimp? only [zj]
  simp? only [appA0 _ ho]
set_option maxHeartbeats 2000000 in
theorem a2b_run (n : Nat) (hn : 8 < n) (p q r s : Nat) (hp : p < 64) (hq : q < 64) (hr : r < 64) (hs : s < 64) (g : List LObj) :
    ∃ junk,va n [.bytes [e64 p,e64 q,e64 r,e64 s],.bool false] g = some (.bytes [(p * 4 + q / 16).toUInt8,(q % 16 * 16 + r / 4).toUInt8,(r % 4 * 64 + s).toUInt8],g++junk) := by
  obtain ⟨m,rfl⟩ : ∃ m,n = m + 5 := ⟨n - 5,by exact o171 hn⟩
  let D : Option V := some (.bytes [e64 p,e64 q,e64 r,e64 s])
  have z : (0 : Int) = ((0 : Nat) : Int) := rfl
  have b1 := zfe (m + 5) p hp D D (some (.ref g.length)) none 0 0 0 (g++[.lst []]) (aQ0 p 0 D (some (.bool false)) D (some (.ref g.length)) (some (.int 0)) (some (.int 0)) (g++[.lst []])) (i' := 0) rfl
  have b2 := zfe (m + 5) q hq D D (some (.ref g.length)) (some (.int (p : Int))) 1 (0 + 1) p (g++[.lst []]) (aQ1 q p hq hp D (some (.bool false)) D (some (.int 0)) (some (.int (0 + 1))) g [] (by simp)) (i' := 0 + 1) rfl
  have b3 := zfe (m + 5) r hr D D (some (.ref g.length)) (some (.int (q : Int))) 2 (0 + 1 + 1) (q % 16) (g++[.lst ([]++[.int ((p * 4 + q / 16 : Nat) : Int)])]) (aQ2 r (q % 16) hr (o196) D (some (.bool false)) D (some (.int 0)) (some (.int (0 + 1 + 1))) g _ (by simp)) (i' := 0 + 1 + 1) rfl
  have b4 := zfe (m + 5) s hs D D (some (.ref g.length)) (some (.int (r : Int))) 3 (0 + 1 + 1 + 1) (r % 4) (g++[.lst ([]++[.int ((p * 4 + q / 16 : Nat) : Int)]++[.int ((q % 16 * 16 + r / 4 : Nat) : Int)])]) (aQ3 s (r % 4) hs (o197) D (some (.bool false)) D (some (.int 0)) (some (.int (0 + 1 + 1 + 1))) g _ (by simp)) (i' := 0 + 1 + 1 + 1) rfl
  simp only [zts,ztz] at b1 b2 b3 b4
  have loop : ∃ i,forS (m + 5) (ldE 2) (stS 8) (aB (m + 5)) ⟨[D,some (.bool false),D,some (.ref g.length),some (.int 0),some (.int 0),some (.int 0),some (.int 0),none],g++[.lst []]⟩ = some (.next,⟨[D,some (.bool false),D,some (.ref g.length),some (.int 0),some (.int 0),some (.int 0),i,some (.int (s : Int))],g++[.lst [.int ((p * 4 + q / 16 : Nat) : Int),.int ((q % 16 * 16 + r / 4 : Nat) : Int),.int ((r % 4 * 64 + s : Nat) : Int)]]⟩) := by
    refine ⟨some (.int (0 + 1 + 1 + 1 + 1)),?_⟩
    rw [zhv]
    try dsimp? only [zj]
    dsimp? only [qn,zzs,zzz,D,vu,List.map_cons,List.map_nil]
    simp only [D] at b1 b2 b3 b4
    rw [jv]
    try dsimp? only [zj]
    simp only [Src.get,zzz]
    rw [show some (V.int 0) = some (V.int ((0 : Nat) : Int)) from rfl] at b1 ⊢
    rw [b1]
    simp only []
    rw [jv]
    try dsimp? only [zj]
    simp only [Src.get,zzz,zzs]
    rw [show some (V.int ((0 : Nat) : Int)) = some (V.int 0) from rfl]
    rw [b2]
    simp only []
    rw [jv]
    try dsimp? only [zj]
    simp only [Src.get,zzz,zzs]
    rw [b3]
    simp only []
    rw [jv]
    try dsimp? only [zj]
    simp only [Src.get,zzz,zzs]
    rw [b4]
    simp only []
    rw [jv]
    try dsimp? only [zj]
    rfl
  obtain ⟨i,loop⟩ := loop
  have fin : kz [.ref g.length] (g++[.lst [.int ((p * 4 + q / 16 : Nat) : Int),.int ((q % 16 * 16 + r / 4 : Nat) : Int),.int ((r % 4 * 64 + s : Nat) : Int)]]) = some (.bytes [(p * 4 + q / 16).toUInt8,(q % 16 * 16 + r / 4).toUInt8,(r % 4 * 64 + s).toUInt8],g++[.lst [.int ((p * 4 + q / 16 : Nat) : Int),.int ((q % 16 * 16 + r / 4 : Nat) : Int),.int ((r % 4 * 64 + s : Nat) : Int)]]) := by
    have hb : ∀ x : Nat,x < 256→(decide (0≤((x : Nat) : Int)) && decide (((x : Nat) : Int) < 256)) = true := fun x h => by simp; exact o142 h
    simp only [kz,jf,jm,zzz,List.length_cons,List.length_nil]
    rw [if_pos (by decide)]
    simp only [v8,Option.map_some,List.all_cons,List.all_nil,hb _ (show p * 4 + q / 16 < 256 by exact o198 hp hq),hb _ (show q % 16 * 16 + r / 4 < 256 by exact o199 hr),hb _ (show r % 4 * 64 + s < 256 by exact o200 hs),Bool.and_self,if_true,List.map_cons,List.map_nil,Int.toNat_natCast]
  have e01 : ∀ g : List LObj,eqV g (.int 0) (.int 1) = some false := fun g => rfl
  have n00 : ∀ g : List LObj,neV g (.int 0) (.int 0) = some false := fun g => rfl
  refine ⟨[.lst [.int ((p * 4 + q / 16 : Nat) : Int),.int ((q % 16 * 16 + r / 4 : Nat) : Int),.int ((r % 4 * 64 + s : Nat) : Int)]],qm (st := ⟨[D,some (.bool false),D,some (.ref g.length),some (.int 0),some (.int 0),some (.int 0),i,some (.int (s : Int))],_⟩) _ rfl rfl ?_⟩
  simp only [zat,List.length_cons,List.length_nil,List.append_nil,List.map_cons,List.map_nil,Nat.reduceAdd,Nat.reduceSub,List.replicate,List.cons_append,List.nil_append]
  simp? only [za1,zfl,List.length_nil,Nat.zero_le,if_true]
  unfold aB aQ at loop
  rw [loop]
  simp? only [e01,n00,fin]
theorem zji (n : Nat) (hn : 8 < n) (p : Nat × Nat) (hp : p ∈ pairs) (a b c : Nat) (ha : a < 256) (hb : b < 256) (hc : c < 256) (g : List LObj) :
    ∃ junk,j0 n [.bytes ((wrd p.1 p.2 a b c).map (·.toUInt8)),.bytes [p.1.toUInt8,p.2.toUInt8]] g = some (.bytes [a.toUInt8,b.toUInt8,c.toUInt8],g++junk) := by
  obtain ⟨junk,e⟩ := a2b_run n hn (a / 4) (a % 4 * 16 + b / 16) (b % 16 * 4 + c / 64) (c % 64) (o172 ha) (o173 hb) (o174 hc) (o175) g
  rw [show a / 4 * 4 + (a % 4 * 16 + b / 16) / 16 = a by exact o201 hb,show (a % 4 * 16 + b / 16) % 16 * 16 + (b % 16 * 4 + c / 64) / 4 = b by exact o202 hb hc,show (b % 16 * 4 + c / 64) % 4 * 64 + c % 64 = c by exact o203 hc] at e
  obtain ⟨t1,t2⟩ := dec_tab p hp
  have mk : ∀ g : List LObj,kf [.bytes [p.1.toUInt8,p.2.toUInt8],.bytes [43,47]] g = some (.bytes (vh [p.1.toUInt8,p.2.toUInt8] [43,47]),g) := fun g => rfl
  have tr : ∀ g : List LObj,j6 [.bytes ((wrd p.1 p.2 a b c).map (·.toUInt8)),.bytes (vh [p.1.toUInt8,p.2.toUInt8] [43,47])] g = some (.bytes [e64 (a / 4),e64 (a % 4 * 16 + b / 16),e64 (b % 16 * 4 + c / 64),e64 (c % 64)],g) := fun g => by
    simp only [j6]
    rw [if_pos ⟨t1,by simp [wrd]; decide⟩]
    simp only [trL,List.map_cons,List.map_nil,wrd]
    rw [t2 _ (o172 ha),t2 _ (o173 hb),t2 _ (o174 hc),t2 _ (o175)]
  have i1 : ∀ g : List LObj,zf3 g (.bytes [p.1.toUInt8,p.2.toUInt8]) .none = some true := fun g => rfl
  have l2 : ∀ g : List LObj,lenF [.bytes [p.1.toUInt8,p.2.toUInt8]] g = some (.int 2,g) := fun g => by unfold lenF; simp only; rw [if_pos (by simp; decide)]; rfl
  have e2 : ∀ g : List LObj,eqV g (.int 2) (.int 2) = some true := fun g => rfl
  refine ⟨junk,qm (st := ⟨[some (.bytes [e64 (a / 4),e64 (a % 4 * 16 + b / 16),e64 (b % 16 * 4 + c / 64),e64 (c % 64)]),some (.bytes [p.1.toUInt8,p.2.toUInt8]),some (.bool false)],g++junk⟩) _ rfl rfl ?_⟩
  simp only [zck,List.length_cons,List.length_nil,List.append_nil,List.map_cons,List.map_nil,Nat.reduceAdd,Nat.reduceSub,List.replicate,List.cons_append,List.nil_append]
  simp? only [zc3,i1,l2,e2,ya,if_true,mk,tr,e]
end Mine
end
section
namespace Mine
open PySem PyProof.Rows
noncomputable def wkOf (ws : List T3) : Wk := ⟨ws.length,fun j => (at3 ws j).1,fun j => (at3 ws j).2.1,fun j => (at3 ws j).2.2⟩
set_option tactic.hygienic true in
theorem le2 (g : List LObj) (a b c d : Int) : leV g (.tup [.int a,.int b]) (.tup [.int c,.int d]) = some (decide (a < c∨(a = c∧b≤d))) := by
  simp only [leV,v8,Option.map_some,lexB]
  congr 1
  split
  · split
    · rename_i h1 h2; subst h1 h2; simp
    · rename_i h1 h2; subst h1; apply decide_eq_decide.mpr; omega
  · rename_i h; apply decide_eq_decide.mpr; omega
theorem yw (g : List LObj) (x : T3) : jg g (it x) (.int 0) = some (.int x.1)∧jg g (it x) (.int 1) = some (.int x.2.1)∧jg g (it x) (.int 2) = some (.int x.2.2) := by
  refine ⟨?_,?_,?_⟩ <;> (unfold jg it; simp only; rw [if_pos ⟨by decide,by simp; decide⟩]; rfl)
theorem zhb {g : List LObj} {n : Nat} (h : n≤1000000) : vu g (.rng 0 (n : Int)) = some (.vals ((List.range n).map fun i : Nat => V.int (i : Int))) := by
  unfold vu
  simp only
  rw [if_pos ⟨by decide,by simpa using h,by exact o204 h⟩]
  unfold wi
  simp
theorem zko {n j : Nat} (h : j < n) : ((List.range n).map fun i : Nat => V.int (i : Int))[j]? = some (V.int (j : Int)) := by
  rw [List.getElem?_map,List.getElem?_range h]; rfl
theorem zdg (rk : Int) : ∀ (l1 l2 : List (Int × Int)) (f : Int),skF rk f (l1++l2) = skF rk (skF rk f l1) l2
  | [],_,_ => rfl
  | (r,c) :: l1,l2,f => by
    simp only [List.cons_append,skF]
    split <;> exact zdg rk l1 l2 _
theorem max2 (g junk : List LObj) (a b : Int) : maxF [.ref (g++junk).length] ((g++junk)++[.lst [.int a,.int b]]) = some (.int (max a b),(g++junk)++[.lst [.int a,.int b]]) := by
  simp only [maxF,jf,jm,zzz,List.length_cons,List.length_nil]
  rw [if_pos (by decide)]
  rfl
noncomputable def part (W : Wk) (k j : Nat) : Int := skF (W.row k) 0 (((List.range j).filter fun i => kle W i k).map fun i => (W.row i,W.hrs i))
theorem zkv (W : Wk) (k j : Nat) : part W k (j + 1) = if kle W j k∧(W.row j≤W.row k∨W.row j < part W k j) then max (part W k j) (W.row j) + W.hrs j else part W k j := by
  unfold part
  rw [List.range_succ,List.filter_append,List.map_append,zdg]
  by_cases q : kle W j k
  · simp only [List.filter_cons,q,decide_true,if_true,List.filter_nil,List.map_cons,List.map_nil,skF,true_and]
  · simp only [List.filter_cons,q,decide_false,Bool.false_eq_true,if_false,List.filter_nil,List.map_nil,skF,false_and]
theorem zer (n : Nat) (ws : List T3) (hn : ws.length < n) (hz : ws.length≤1000) (k : Nat) (hk : k < ws.length) (g : List LObj) (wk : Nat) (hg : g[wk]? = some (.lst (ws.map it))) :
    ∃ junk,js n [.ref wk,.int (k : Int)] g = some (.int (Sim.lastOf (wkOf ws) k),g++junk) := by
  let W := wkOf ws
  have hzs : ws.length≤szL := by rw [qy]; exact o141 hz
  let P : Nat→St→Prop := fun j st => ∃ x3 x4 x5 x6 junk,st = ⟨[some (.ref wk),some (.int (k : Int)),some (.int (part W k j)),x3,x4,x5,x6],g++junk⟩
  have hlen := lenL hg hzs
  have body : ∀ j v st,((List.range ws.length).map fun i : Nat => V.int (i : Int))[j]? = some v→P j st→∃ st',(zw ((stS 3) v) (fun _ => (seqS (zfk [(stS 4),(stS 5),(stS 6)] (zu (ldE 0) (ldE 3))) (seqS (iteL (andT (cmpT leV (tupE (zl (ldE 5) (zl (ldE 3) nilL))) (tupE (zl (zu (zu (ldE 0) (ldE 1)) (zd (.int 1))) (zl (ldE 1) nilL)))) (orT (cmpT leV (ldE 4) (zu (zu (ldE 0) (ldE 1)) (zd (.int 0)))) (cmpT ltV (ldE 4) (ldE 2)))) (seqS (asgS 2 (binE addV (zr maxF (zl (lstE (zl (ldE 2) (zl (ldE 4) nilL))) nilL)) (ldE 6))) zm) zm) zm))) st = some (.next,st')∨zw ((stS 3) v) (fun _ => (seqS (zfk [(stS 4),(stS 5),(stS 6)] (zu (ldE 0) (ldE 3))) (seqS (iteL (andT (cmpT leV (tupE (zl (ldE 5) (zl (ldE 3) nilL))) (tupE (zl (zu (zu (ldE 0) (ldE 1)) (zd (.int 1))) (zl (ldE 1) nilL)))) (orT (cmpT leV (ldE 4) (zu (zu (ldE 0) (ldE 1)) (zd (.int 0)))) (cmpT ltV (ldE 4) (ldE 2)))) (seqS (asgS 2 (binE addV (zr maxF (zl (lstE (zl (ldE 2) (zl (ldE 4) nilL))) nilL)) (ldE 6))) zm) zm) zm))) st = some (.cont,st'))∧P (j + 1) st' := by
    rintro j v st hv hx0; obtain ⟨x3,x4,x5,x6,junk,rfl⟩ := hx0
    have hj : j < ws.length := by
      have := (List.getElem?_eq_some_iff.mp hv).1
      simpa using this
    rw [zko hj] at hv
    obtain rfl := Option.some.inj hv
    have ij := ux (g := g++junk) (qw hg) hzs hj
    have ik := ux (g := g++junk) (qw hg) hzs hk
    obtain ⟨t0,t1,t2⟩ := yw (g++junk) (at3 ws k)
    have h2 : (2 : Nat)≤szL := by decide
    have tl := le2 (g++junk) (at3 ws j).2.1 (j : Int) (at3 ws k).2.1 (k : Int)
    have hps := zkv W k j
    have un : unpA [stS 4,stS 5,stS 6] (it (at3 ws j)) ⟨[some (.ref wk),some (.int (k : Int)),some (.int (part W k j)),some (.int (j : Int)),x4,x5,x6],g++junk⟩ = some ((),⟨[some (.ref wk),some (.int (k : Int)),some (.int (part W k j)),some (.int (j : Int)),some (.int (at3 ws j).1),some (.int (at3 ws j).2.1),some (.int (at3 ws j).2.2)],g++junk⟩) := by
      unfold it; simp? only [zj]
    by_cases q : kle W j k
    · have q' : (at3 ws j).2.1 < (at3 ws k).2.1∨((at3 ws j).2.1 = (at3 ws k).2.1∧(j : Int)≤(k : Int)) := by
        have : W.due j < W.due k∨(W.due j = W.due k∧j≤k) := q
        rcases this with h | ⟨h1,h2⟩
        · exact .inl h
        · exact .inr ⟨h1,by exact o205 h2⟩
      rw [decide_eq_true q'] at tl
      by_cases r : W.row j≤W.row k∨W.row j < part W k j
      · rw [if_pos ⟨q,r⟩] at hps
        refine ⟨⟨[some (.ref wk),some (.int (k : Int)),some (.int (part W k (j + 1))),some (.int (j : Int)),some (.int (at3 ws j).1),some (.int (at3 ws j).2.1),some (.int (at3 ws j).2.2)],(g++junk)++[.lst [.int (part W k j),.int (at3 ws j).1]]⟩,.inl ?_,?_⟩
        · by_cases r1 : (at3 ws j).1≤(at3 ws k).1
          · simp? only [ij,ik,un,t1,t0,List.length_cons,List.length_nil,Nat.reduceAdd,h2,if_true,tl,zhm r1,max2,addV]
            rw [hps]; rfl
          · have r2 : (at3 ws j).1 < part W k j := r.resolve_left r1
            simp? only [ij,ik,un,t1,t0,List.length_cons,List.length_nil,Nat.reduceAdd,h2,if_true,tl,zhn r1,ltI_t r2,max2,addV]
            rw [hps]; rfl
        · exact ⟨_,_,_,_,junk++[.lst [.int (part W k j),.int (at3 ws j).1]],by rw [List.append_assoc]⟩
      · rw [if_neg (fun z => r z.2)] at hps
        have r1 : ¬ (at3 ws j).1≤(at3 ws k).1 := fun z => r (.inl z)
        have r2 : ¬ (at3 ws j).1 < part W k j := fun z => r (.inr z)
        refine ⟨⟨[some (.ref wk),some (.int (k : Int)),some (.int (part W k (j + 1))),some (.int (j : Int)),some (.int (at3 ws j).1),some (.int (at3 ws j).2.1),some (.int (at3 ws j).2.2)],g++junk⟩,.inl ?_,⟨_,_,_,_,junk,rfl⟩⟩
        simp? only [ij,ik,un,t1,t0,List.length_cons,List.length_nil,Nat.reduceAdd,h2,if_true,tl,zhn r1,ltI_f r2]
        rw [hps]
    · have q' : ¬ ((at3 ws j).2.1 < (at3 ws k).2.1∨((at3 ws j).2.1 = (at3 ws k).2.1∧(j : Int)≤(k : Int))) := fun z => q (by
        show W.due j < W.due k∨(W.due j = W.due k∧j≤k)
        rcases z with h | ⟨h1,h2⟩
        · exact .inl h
        · exact .inr ⟨h1,by exact o206 h2⟩)
      rw [decide_eq_false q'] at tl
      rw [if_neg (fun z => q z.1)] at hps
      refine ⟨⟨[some (.ref wk),some (.int (k : Int)),some (.int (part W k (j + 1))),some (.int (j : Int)),some (.int (at3 ws j).1),some (.int (at3 ws j).2.1),some (.int (at3 ws j).2.2)],g++junk⟩,.inl ?_,⟨_,_,_,_,junk,rfl⟩⟩
      simp? only [ij,ik,un,t1,t0,List.length_cons,List.length_nil,Nat.reduceAdd,h2,if_true,tl]
      rw [hps]
  obtain ⟨st',e,x3,x4,x5,x6,junk,rfl⟩ := y7 (n := n) (f := zr j7 (zl (zr lenF (zl (ldE 0) nilL)) nilL)) (st := ⟨[some (.ref wk),some (.int (k : Int)),some (.int 0),none,none,none,none],g⟩) (st₁ := ⟨[some (.ref wk),some (.int (k : Int)),some (.int 0),none,none,none,none],g⟩) (v := .rng 0 (ws.length : Int)) (P := P)
    (by simp? only [hlen,j7]) (zhb (by exact o207 hz)) (fun j st _ => rfl) body ⟨none,none,none,none,[],by rw [List.append_nil]; rfl⟩ (by simpa using hn)
  refine ⟨junk,qm (st := ⟨[some (.ref wk),some (.int (k : Int)),some (.int (part W k ws.length)),x3,x4,x5,x6],g++junk⟩) _ rfl rfl ?_⟩
  simp only [xq,List.length_cons,List.length_nil,List.append_nil,List.map_cons,List.map_nil,Nat.reduceAdd,Nat.reduceSub,List.replicate,List.cons_append,List.nil_append]
  simp? only [e,subV]
  rw [show (List.map (fun i : Nat => V.int (i : Int)) (List.range ws.length)).length = ws.length by simp]
  rfl
end Mine
end
section
namespace Mine
open PySem PyProof.Rows
theorem uk (n : Nat) (ws : List T3) (hn : ws.length < n) (hz : ws.length≤1000) (G : List LObj) (wk : Nat) (hg : G[wk]? = some (.lst (ws.map it))) (cap : List Nat) (loc : List (Option V)) (h0 : loc[0]? = some (some (.ref wk))) {test : LM Bool} {elt : LM V} (res : T3→Option V)
    (hs : ∀ x ∈ ws,∀ G',match res x with
      | some y => test ⟨some (.int x.1) :: some (.int x.2.1) :: some (.int x.2.2) :: cap.map (fun i => (loc[i]?).join),G'⟩ = some (true,⟨some (.int x.1) :: some (.int x.2.1) :: some (.int x.2.2) :: cap.map (fun i => (loc[i]?).join),G'⟩)∧elt ⟨some (.int x.1) :: some (.int x.2.1) :: some (.int x.2.2) :: cap.map (fun i => (loc[i]?).join),G'⟩ = some (y,⟨some (.int x.1) :: some (.int x.2.1) :: some (.int x.2.2) :: cap.map (fun i => (loc[i]?).join),G'⟩)
      | none => test ⟨some (.int x.1) :: some (.int x.2.1) :: some (.int x.2.2) :: cap.map (fun i => (loc[i]?).join),G'⟩ = some (false,⟨some (.int x.1) :: some (.int x.2.1) :: some (.int x.2.2) :: cap.map (fun i => (loc[i]?).join),G'⟩)) :
    ∃ junk,kb n (ldE 0) 3 cap (unpA [stS 0,stS 1,stS 2]) test elt ⟨loc,G⟩ = some (.ref G.length,⟨loc,G++.lst (ws.filterMap res) :: junk⟩) := by
  let r' : V→Option V := fun v => match v with
    | .tup [.int a,.int b,.int c] => res (a,b,c)
    | _ => none
  obtain ⟨junk,e⟩ := ue (g := G) (src := .lst wk) (vs := ws.map it) (k := 3) (cap := cap) (asg := unpA [stS 0,stS 1,stS 2]) (test := test) (elt := elt) (f := ldE 0) (v := .ref wk) (loc := loc) (n := n) r' (by rw [qn,h0]) (by unfold vu; simp only [hg]) (src_lst hg) (by simp; rw [qy]; exact o141 hz) (by simpa using hn) (by
    intro v hv o x junk ho
    obtain ⟨s,hs',rfl⟩ := List.mem_map.mp hv
    obtain ⟨o0,o1,o2,rfl⟩ : ∃ o0 o1 o2,o = [o0,o1,o2] := by
      rcases o with _ | ⟨a,_ | ⟨b,_ | ⟨c,_ | ⟨d,r⟩⟩⟩⟩ <;> simp at ho
      exact ⟨a,b,c,rfl⟩
    refine ⟨[some (.int s.1),some (.int s.2.1),some (.int s.2.2)],[],rfl,?_,?_⟩
    · unfold it; simp? only [List.cons_append,List.nil_append]
    · have := hs s hs' (G++x :: junk)
      simp only [List.append_nil,List.cons_append,List.nil_append]
      exact this)
  have hres : (ws.map it).filterMap r' = ws.filterMap res := by
    rw [List.filterMap_map]; rfl
  rw [hres] at e
  exact ⟨junk,e⟩
theorem zh9 (ws : List T3) : (List.range ws.length).map (at3 ws) = ws := by
  refine List.ext_getElem (by simp) fun i h1 h2 => ?_
  simp only [List.getElem_map,List.getElem_range]
  exact (zad h2).symm
noncomputable def inL (ws : List T3) (i k : Nat) : List Int := ws.filterMap fun x => if (at3 ws i).1≤x.1∧x.2.1≤(at3 ws k).2.1 then some x.2.2 else none
noncomputable def uf (ws : List T3) (i k : Nat) : List Int := if inL ws i k = [] then [] else [(inL ws i k).sum - ((at3 ws k).2.1 - (at3 ws i).1 + 1)]
noncomputable def yp (ws : List T3) : List Int := (List.range ws.length).flatMap fun i => (List.range ws.length).flatMap fun k => uf ws i k
theorem ye {α : Type} (p : α→Bool) (f : α→Int) : ∀ l : List α,(l.filterMap fun x => if p x = true then some (f x) else none).sum = (l.map fun x => if p x = true then f x else 0).sum
  | [] => rfl
  | x :: l => by
    have ih := ye p f l
    rw [List.filterMap_cons]
    by_cases h : p x = true
    · simp only [h,if_true,List.sum_cons,ih,List.map_cons]
    · simp only [h,List.map_cons,List.sum_cons]; simpa using ih
theorem zla (ws : List T3) (i k : Nat) : (inL ws i k).sum - ((at3 ws k).2.1 - (at3 ws i).1 + 1) = Sim.room (wkOf ws) i k := by
  unfold Sim.room inL
  have h1 := ye (fun x : T3 => decide ((at3 ws i).1≤x.1∧x.2.1≤(at3 ws k).2.1)) (fun x => x.2.2) ws
  simp only [decide_eq_true_eq] at h1
  rw [h1]
  conv => lhs; rw [← zh9 ws]
  rw [List.map_map]
  simp only [zh9]
  rfl
set_option tactic.hygienic true in
theorem zlb (ws : List T3) (i k : Nat) : inL ws i k≠[]↔∃ j,j < ws.length∧Sim.inside (wkOf ws) i k j := by
  unfold inL
  constructor
  · intro h
    obtain ⟨y,hy⟩ := List.exists_mem_of_ne_nil _ h
    obtain ⟨x,hx,e⟩ := List.mem_filterMap.mp hy
    split at e
    · rename_i q
      obtain ⟨j,hj,rfl⟩ := List.mem_iff_getElem.mp hx
      rw [zad hj] at q
      exact ⟨j,hj,q⟩
    · injection e
  · rintro ⟨j,hj,q⟩ h
    have : (at3 ws j).2.2 ∈ ws.filterMap fun x => if (at3 ws i).1≤x.1∧x.2.1≤(at3 ws k).2.1 then some x.2.2 else none :=
      List.mem_filterMap.mpr ⟨at3 ws j,by rw [← zad hj]; exact List.getElem_mem hj,if_pos q⟩
    rw [h] at this; injection this
set_option tactic.hygienic true in
theorem y3 (ws : List T3) (x : Int) : x ∈ yp ws↔∃ i k,i < ws.length∧k < ws.length∧(∃ j,j < ws.length∧Sim.inside (wkOf ws) i k j)∧x = Sim.room (wkOf ws) i k := by
  unfold yp
  simp only [List.mem_flatMap,List.mem_range]
  constructor
  · rintro hx0; obtain ⟨i,hi,k,hk,h⟩ := hx0
    unfold uf at h
    split at h
    · injection h
    · rename_i q
      rw [List.mem_singleton,zla] at h
      exact ⟨i,k,hi,hk,(zlb ws i k).mp q,h⟩
  · rintro hx0; obtain ⟨i,k,hi,hk,hj,rfl⟩ := hx0
    refine ⟨i,hi,k,hk,?_⟩
    unfold uf
    rw [if_neg ((zlb ws i k).mpr hj),zla]
    exact List.mem_singleton.mpr rfl
theorem appM {g : List LObj} {o : List V} {junk : List LObj} (v : V) (h : o.length≤100000) : zt [.ref g.length,v] (g++.lst o :: junk) = some (.none,g++.lst (o++[v]) :: junk) := by
  simp only [zt,jm,zzz,setA0,ztz]
  rw [if_pos (by rw [qy]; exact o208 h)]
theorem zge (ws : List T3) (i k : Nat) : (uf ws i k).length≤1 := by unfold uf; split <;> simp
theorem xt {f : Nat→List Int} (m : Nat) (h : ∀ k,(f k).length≤m) : ∀ n,((List.range n).flatMap f).length≤n * m
  | 0 => by simp
  | n + 1 => by
    have ih := xt m h n
    have := h n
    rw [List.range_succ,List.flatMap_append,List.length_append,Nat.succ_mul]
    simp only [List.flatMap_cons,List.flatMap_nil,List.append_nil]
    exact o209 ih this
theorem zdl (f : Nat→List Int) (n : Nat) : (List.range (n + 1)).flatMap f = (List.range n).flatMap f++f n := by
  rw [List.range_succ,List.flatMap_append]; simp
noncomputable def row1 (ws : List T3) (i : Nat) : List Int := (List.range ws.length).flatMap fun k => uf ws i k
noncomputable abbrev tB (n : Nat) : LM Fl := (seqS (asgS 4 (kb n (ldE 0) 3 [2,3] (unpA [(stS 0),(stS 1),(stS 2)]) (andT (cmpT geV (ldE 0) (ldE 3)) (cmpT leV (ldE 1) (ldE 4))) (ldE 2))) (seqS (iteL (cmpT neV (ldE 4) (lstE nilL)) (seqS (ja (q5 qf zt (ldE 1) (zl (binE subV (zr sumF (zl (ldE 4) nilL)) (binE addV (binE subV (ldE 3) (ldE 2)) (zd (.int 1)))) nilL))) zm) zm) zm))
theorem zi9 (n : Nat) (ws : List T3) (hn : ws.length < n) (hz : ws.length≤100) (g : List LObj) (wk : Nat) (hg : g[wk]? = some (.lst (ws.map it))) (i k : Nat) (m : List Int) (hm : m.length≤50000) (x3 x4 : Option V) (junk : List LObj) :
    ∃ x4' junk',zw (stS 3 (.int (at3 ws k).2.1)) (fun _ => tB n) ⟨[some (.ref wk),some (.ref g.length),some (.int (at3 ws i).1),x3,x4],g++.lst (m.map .int) :: junk⟩ =
      some (.next,⟨[some (.ref wk),some (.ref g.length),some (.int (at3 ws i).1),some (.int (at3 ws k).2.1),x4'],g++.lst ((m++uf ws i k).map .int) :: (junk++junk')⟩) := by
  obtain ⟨j1,e1⟩ := uk n ws hn (o210 hz) (g++.lst (m.map .int) :: junk) wk (qw hg) [2,3] [some (.ref wk),some (.ref g.length),some (.int (at3 ws i).1),some (.int (at3 ws k).2.1),x4] rfl
    (test := (andT (cmpT geV (ldE 0) (ldE 3)) (cmpT leV (ldE 1) (ldE 4)))) (elt := ldE 2) (fun x => if (at3 ws i).1≤x.1∧x.2.1≤(at3 ws k).2.1 then some (.int x.2.2) else none) (by
      intro x hx G'
      simp only [List.map_cons,List.map_nil,zzs,zzz,Option.join_some]
      by_cases q1 : (at3 ws i).1≤x.1
      · by_cases q2 : x.2.1≤(at3 ws k).2.1
        · rw [if_pos ⟨q1,q2⟩]
          refine ⟨?_,rfl⟩
          simp? only [geI_t q1,zhm q2]
        · rw [if_neg (fun z => q2 z.2)]
          simp? only [geI_t q1,zhn q2]
      · rw [if_neg (fun z => q1 z.1)]
        simp? only [geI_f q1])
  have hw : (ws.filterMap fun x => if (at3 ws i).1≤x.1∧x.2.1≤(at3 ws k).2.1 then some (V.int x.2.2) else none) = (inL ws i k).map V.int := by
    unfold inL
    rw [List.map_filterMap]
    congr 1
    funext x
    split <;> rfl
  rw [hw] at e1
  generalize hG : g++LObj.lst (m.map V.int) :: junk = G at *
  have hl : ((inL ws i k).map V.int).length≤1000 := by
    have := List.length_filterMap_le (fun x : T3 => if (at3 ws i).1≤x.1∧x.2.1≤(at3 ws k).2.1 then some x.2.2 else none) ws
    rw [List.length_map]; unfold inL; exact Nat.le_trans this (o210 hz)
  have s1 : (G++.lst ((inL ws i k).map V.int) :: j1++[LObj.lst []])[G.length]? = some (.lst ((inL ws i k).map V.int)) := qw (jm _ _)
  have s2 : (G++.lst ((inL ws i k).map V.int) :: j1++[LObj.lst []])[(G++LObj.lst ((inL ws i k).map V.int) :: j1).length]? = some (.lst []) := jm _ _
  have hJ : G++.lst ((inL ws i k).map V.int) :: j1++[LObj.lst []] = g++.lst (m.map V.int) :: (junk++(.lst ((inL ws i k).map V.int) :: j1++[LObj.lst []])) := by rw [← hG]; simp
  by_cases q : inL ws i k = []
  · have hc : uf ws i k = [] := by unfold uf; rw [if_pos q]
    have ne : neV (G++.lst ((inL ws i k).map V.int) :: j1++[LObj.lst []]) (.ref G.length) (.ref (G++LObj.lst ((inL ws i k).map V.int) :: j1).length) = some false := by
      unfold neV eqV zc1; simp only [s1,s2]; rw [q]; rfl
    refine ⟨some (.ref G.length),.lst ((inL ws i k).map V.int) :: j1++[LObj.lst []],?_⟩
    rw [vp,yy]
    try dsimp? only [zj]
    simp only [zts,ztz]
    unfold tB
    rw [zq,qv,e1]
    try dsimp? only [zj]
    simp? only [List.length_nil,Nat.zero_le,if_true,ne]
    rw [hJ,hc,List.append_nil]
  · have hc : uf ws i k = [(inL ws i k).sum - ((at3 ws k).2.1 - (at3 ws i).1 + 1)] := by unfold uf; rw [if_neg q]
    have ne : neV (G++.lst ((inL ws i k).map V.int) :: j1++[LObj.lst []]) (.ref G.length) (.ref (G++LObj.lst ((inL ws i k).map V.int) :: j1).length) = some true := by
      unfold neV eqV zc1; simp only [s1,s2]
      rw [if_neg (by simpa using q)]; rfl
    have sm : sumF [.ref G.length] (G++.lst ((inL ws i k).map V.int) :: j1++[LObj.lst []]) = some (.int (inL ws i k).sum,G++.lst ((inL ws i k).map V.int) :: j1++[LObj.lst []]) := by
      simp only [sumF,jf,s1]; rw [if_pos (by rw [qy]; exact o141 hl),yq]; rfl
    have il : qf (G++.lst ((inL ws i k).map V.int) :: j1++[LObj.lst []]) (.ref g.length) = true := by rw [hJ]; simp only [qf,jm,zzz]
    have ap := appM (g := g) (o := m.map V.int) (junk := junk++(.lst ((inL ws i k).map V.int) :: j1++[LObj.lst []])) (.int ((inL ws i k).sum - ((at3 ws k).2.1 - (at3 ws i).1 + 1))) (by simp; exact o211 hm)
    rw [← hJ] at ap
    refine ⟨some (.ref G.length),.lst ((inL ws i k).map V.int) :: j1++[LObj.lst []],?_⟩
    rw [vp,yy]
    try dsimp? only [zj]
    simp only [zts,ztz]
    unfold tB
    rw [zq,qv,e1]
    try dsimp? only [zj]
    simp? only [List.length_nil,Nat.zero_le,if_true,ne,il,sm,subV,addV,ap]
    rw [hc,List.map_append]; rfl
theorem zk3 (n : Nat) (ws : List T3) (hn : ws.length < n) (hz : ws.length≤100) (g : List LObj) (wk : Nat) (hg : g[wk]? = some (.lst (ws.map it))) (i : Nat) (m : List Int) (hm : m.length≤20000) (x2 x3 x4 : Option V) (junk : List LObj) :
    ∃ x3' x4' junk',zw (stS 2 (.int (at3 ws i).1)) (fun _ => seqS (forS n (kb n (ldE 0) 3 [] (unpA [(stS 0),(stS 1),(stS 2)]) yesT (ldE 1)) (stS 3) (tB n)) zm) ⟨[some (.ref wk),some (.ref g.length),x2,x3,x4],g++.lst (m.map .int) :: junk⟩ =
      some (.next,⟨[some (.ref wk),some (.ref g.length),some (.int (at3 ws i).1),x3',x4'],g++.lst ((m++row1 ws i).map .int) :: (junk++junk')⟩) := by
  obtain ⟨j1,e1⟩ := uk n ws hn (o210 hz) (g++.lst (m.map .int) :: junk) wk (qw hg) [] [some (.ref wk),some (.ref g.length),some (.int (at3 ws i).1),x3,x4] rfl
    (test := yesT) (elt := ldE 1) (fun x => some (.int x.2.1)) (fun x hx G' => ⟨rfl,rfl⟩)
  rw [je (fun x : T3 => V.int x.2.1) ws] at e1
  generalize hG : g++LObj.lst (m.map V.int) :: junk = G at *
  have hJ : G++.lst (ws.map fun x => V.int x.2.1) :: j1 = g++.lst (m.map V.int) :: (junk++(.lst (ws.map fun x => V.int x.2.1) :: j1)) := by rw [← hG]; simp
  let P : Nat→St→Prop := fun k st => ∃ x3 x4 jk,st = ⟨[some (.ref wk),some (.ref g.length),some (.int (at3 ws i).1),x3,x4],g++.lst ((m++(List.range k).flatMap fun k => uf ws i k).map .int) :: (junk++jk)⟩∧st.g[G.length]? = some (.lst (ws.map fun x => V.int x.2.1))
  have hk1 : ∀ k,((List.range k).flatMap (fun k => uf ws i k)).length≤k * 1 := fun k => xt 1 (zge ws i) k
  obtain ⟨st',e2,x3',x4',jk,rfl,_⟩ := y7 (n := n) (vs := ws.map fun x => V.int x.2.1) (src := .lst G.length) (v := .ref G.length) (asg := stS 3) (body := tB n) (P := P) e1 (by unfold vu; simp only [jm,zzz]) (fun j st hp => by obtain ⟨_,_,_,_,h⟩ := hp; simp only [Src.get,h])
    (by
      rintro k v st hv hx0; obtain ⟨x3,x4,jk,rfl,hs⟩ := hx0
      have hk : k < ws.length := by have := (List.getElem?_eq_some_iff.mp hv).1; simpa using this
      rw [List.getElem?_map,uh hk] at hv
      obtain rfl := Option.some.inj hv
      have hkl := hk1 k
      obtain ⟨x4',j2,e⟩ := zi9 n ws hn hz g wk hg i k (m++(List.range k).flatMap fun k => uf ws i k) (by simp only [List.length_append]; exact o212 hz hm hk hkl) x3 x4 (junk++jk)
      refine ⟨_,.inl e,some (.int (at3 ws k).2.1),x4',jk++j2,by rw [zdl,List.append_assoc m,List.append_assoc junk],?_⟩
      have hlt : g.length < G.length := by rw [← hG]; simp
      have hne : G.length≠g.length := by exact o213 hlt
      simp only at hs ⊢
      rw [List.getElem?_append_right (o214 hlt)] at hs ⊢
      obtain ⟨d,hd⟩ : ∃ d,G.length - g.length = d + 1 := ⟨G.length - g.length - 1,by exact o215 hlt⟩
      rw [hd,zzs] at hs ⊢
      exact qw hs)
    ⟨x3,x4,.lst (ws.map fun x => V.int x.2.1) :: j1,by simp [hJ],jm _ _⟩ (by simpa using hn)
  refine ⟨x3',x4',jk,?_⟩
  rw [vp,yy]
  try dsimp? only [zj]
  simp only [zts,ztz]
  rw [zq,e2]
  try dsimp? only [zj]
  dsimp? only [zj,List.length_map]
  rfl
theorem zk2 (n : Nat) (ws : List T3) (hn : ws.length < n) (hz : ws.length≤100) (hpos : 0 < ws.length) (g : List LObj) (wk : Nat) (hg : g[wk]? = some (.lst (ws.map it))) :
    ∃ junk,q6 n [.ref wk] g = some (.int (maxL (yp ws)),g++junk) := by
  obtain ⟨j1,e1⟩ := uk n ws hn (o216 hz hpos) (g++[.lst []]) wk (qw hg) [] [some (.ref wk),some (.ref g.length),none,none,none] rfl
    (test := yesT) (elt := ldE 0) (fun x => some (.int x.1)) (fun x hx G' => ⟨rfl,rfl⟩)
  rw [je (fun x : T3 => V.int x.1) ws] at e1
  generalize hG : g++[LObj.lst []] = G at *
  have hJ : G++.lst (ws.map fun x => V.int x.1) :: j1 = g++.lst [] :: (.lst (ws.map fun x => V.int x.1) :: j1) := by rw [← hG]; simp
  let P : Nat→St→Prop := fun i st => ∃ x2 x3 x4 jk,st = ⟨[some (.ref wk),some (.ref g.length),x2,x3,x4],g++.lst (((List.range i).flatMap (row1 ws)).map .int) :: jk⟩∧st.g[G.length]? = some (.lst (ws.map fun x => V.int x.1))
  have hrl : ∀ i,(row1 ws i).length≤100 := fun i => by
    have := xt 1 (zge ws i) ws.length
    unfold row1; exact Nat.le_trans this (o217 hz hpos)
  obtain ⟨st',e2,x2,x3',x4',jk,rfl,_⟩ := y7 (n := n) (vs := ws.map fun x => V.int x.1) (src := .lst G.length) (v := .ref G.length) (asg := stS 2) (body := seqS (forS n (kb n (ldE 0) 3 [] (unpA [(stS 0),(stS 1),(stS 2)]) yesT (ldE 1)) (stS 3) (tB n)) zm) (P := P) e1 (by unfold vu; simp only [jm,zzz]) (fun j st hp => by obtain ⟨_,_,_,_,_,h⟩ := hp; simp only [Src.get,h])
    (by
      rintro i v st hv hx0; obtain ⟨x2,x3,x4,jk,rfl,hs⟩ := hx0
      have hi : i < ws.length := by have := (List.getElem?_eq_some_iff.mp hv).1; simpa using this
      rw [List.getElem?_map,uh hi] at hv
      obtain rfl := Option.some.inj hv
      have hil := xt 100 hrl i
      obtain ⟨x3',x4',j2,e⟩ := zk3 n ws hn hz g wk hg i ((List.range i).flatMap (row1 ws)) (by have : i * 100≤100 * 100 := Nat.mul_le_mul_right _ (o218 hz hpos hi); exact o219 hz hpos hi hil this) x2 x3 x4 jk
      refine ⟨_,.inl e,some (.int (at3 ws i).1),x3',x4',jk++j2,by rw [zdl],?_⟩
      have hlt : g.length < G.length := by rw [← hG]; simp
      simp only at hs ⊢
      rw [List.getElem?_append_right (o214 hlt)] at hs ⊢
      obtain ⟨d,hd⟩ : ∃ d,G.length - g.length = d + 1 := ⟨G.length - g.length - 1,by exact o215 hlt⟩
      rw [hd,zzs] at hs ⊢
      exact qw hs)
    ⟨none,none,none,.lst (ws.map fun x => V.int x.1) :: j1,by simp [hJ],jm _ _⟩ (by simpa using hn)
  have hmost : (List.range (ws.map fun x => V.int x.1).length).flatMap (row1 ws) = yp ws := by rw [List.length_map]; rfl
  rw [hmost] at e2
  have hml : (yp ws).length≤10000 := by
    have := xt 100 hrl ws.length
    have h2 : ws.length * 100≤100 * 100 := Nat.mul_le_mul_right _ hz
    show ((List.range ws.length).flatMap (row1 ws)).length≤_
    exact o220 hz hpos this
  have hne : yp ws≠[] := by
    have : Sim.room (wkOf ws) 0 0 ∈ yp ws := (y3 ws _).mpr ⟨0,0,hpos,hpos,⟨0,hpos,Int.le_refl _,Int.le_refl _⟩,rfl⟩
    intro h; rw [h] at this; injection this
  have hmx : maxF [.ref g.length] (g++.lst ((yp ws).map .int) :: jk) = some (.int (maxL (yp ws)),g++.lst ((yp ws).map .int) :: jk) := by
    simp only [maxF,jf,jm,zzz]
    rw [if_pos (by simp; rw [qy]; exact o221 hml),yq]
    cases h : yp ws with
    | nil => exact absurd h hne
    | cons x r => rfl
  refine ⟨.lst ((yp ws).map .int) :: jk,qm (st := ⟨[some (.ref wk),some (.ref g.length),x2,x3',x4'],g++.lst ((yp ws).map .int) :: jk⟩) _ rfl rfl ?_⟩
  simp only [ve,List.length_cons,List.length_nil,List.append_nil,List.map_cons,List.map_nil,Nat.reduceAdd,Nat.reduceSub,List.replicate,List.cons_append,List.nil_append]
  unfold tB at e2
  simp? only [List.length_nil,Nat.zero_le,if_true]
  rw [hG,e2]
  simp? only [hmx]
end Mine
end
section
namespace Mine
open PySem PyProof.Rows
noncomputable abbrev lexI (L : Nat) : LexI := ⟨L + 6,L + 5,L + 3,L + 4,L + 2,L,L + 1,L + 7⟩
structure ST (L : Nat) (gb g : List LObj) (hs : List T3) (pl hd : List V) : Prop where
  heap : g[L + 8]? = some (.lst (hs.map it))
  plan : g[L + 9]? = some (.lst pl)
  heard : g[L + 10]? = some (.lst hd)
  keep : Keep [L + 5,L + 1,L + 7,L + 8,L + 9,L + 10] gb g
variable {L : Nat} {gb g g' : List LObj} {hs : List T3} {pl hd : List V} {c : Addr} {ln : Int} {cs : List Nat} {pb : List V}
theorem ST.lex (s : ST L gb g hs pl hd) (k : Keep [L + 5,L + 1,L + 7] g g') : ST L gb g' hs pl hd :=
  ⟨k _ _ (by simp) s.heap,k _ _ (by simp) s.plan,k _ _ (by simp) s.heard,s.keep.trans (k.mono (by simp))⟩
theorem ST.app (s : ST L gb g hs pl hd) (l : List LObj) : ST L gb (g++l) hs pl hd := s.lex (Keep.app _ _ _)
theorem ST.setHeap (s : ST L gb g hs pl hd) (hs' : List T3) : ST L gb (g.set (L + 8) (.lst (hs'.map it))) hs' pl hd :=
  ⟨getS s.heap _,by rw [List.getElem?_set_ne (o222)]; exact s.plan,by rw [List.getElem?_set_ne (o223)]; exact s.heard,s.keep.trans (Keep.set (by simp) _)⟩
theorem ST.setPlan (s : ST L gb g hs pl hd) (pl' : List V) : ST L gb (g.set (L + 9) (.lst pl')) hs pl' hd :=
  ⟨by rw [List.getElem?_set_ne (o224)]; exact s.heap,getS s.plan _,by rw [List.getElem?_set_ne (o225)]; exact s.heard,s.keep.trans (Keep.set (by simp) _)⟩
theorem ST.setHeard (s : ST L gb g hs pl hd) (hd' : List V) : ST L gb (g.set (L + 10) (.lst hd')) hs pl hd' :=
  ⟨by rw [List.getElem?_set_ne (o226)]; exact s.heap,by rw [List.getElem?_set_ne (o227)]; exact s.plan,getS s.heard _,s.keep.trans (Keep.set (by simp) _)⟩
theorem LexAt.other (h : LexAt g c (lexI L) ln cs pb) {i : Nat} (hi : i = L + 8∨i = L + 9∨i = L + 10) (o : LObj) : LexAt (g.set i o) c (lexI L) ln cs pb :=
  h.keep (M := [i]) (Keep.set (by simp) _) fun j hj => .inr (by simp at hj; subst hj; simp only [lexI]; exact o228 hi)
structure Job (n : Nat) (c fr : Addr) (L : Nat) (W : Wk) (w : Nat→List Nat) (R : Nat→List Nat) (p : Nat × Nat) : Prop where
  pos : 0 < W.N
  pair : p ∈ pairs
  card : ∀ k,k < W.N→∃ a b cc : Nat,a < 256∧b < 256∧cc < 256∧w k = wrd p.1 p.2 a b cc∧W.due k = (b : Int) - 240∧W.hrs k = (cc : Int)
  tok : ∀ k,k < W.N→∀ g,LexAt g c (lexI L) (if k = 0 then 1 else W.row (k - 1)) (R k) []→∃ g',qc n c fr [.ref (L + 6)] g = some (.str (w k),g')∧LexAt g' c (lexI L) (W.row k) (R (k + 1)) []∧Keep [L + 5,L + 1] g g'
  fin : ∀ g ln cs,(cs = R W.N∨cs = [])→LexAt g c (lexI L) ln cs []→∃ g' ln',qc n c fr [.ref (L + 6)] g = some (.str [],g')∧LexAt g' c (lexI L) ln' [] []∧Keep [L + 5,L + 1] g g'
noncomputable def RdAt (c : Addr) (L : Nat) (W : Wk) (R : Nat→List Nat) (g : List LObj) (i : Nat) : Prop := (i < W.N∧LexAt g c (lexI L) (W.row i) (R (i + 1)) [])∨(i = W.N∧∃ ln,LexAt g c (lexI L) ln [] [])
noncomputable def BtAt (c : Addr) (L : Nat) (W : Wk) (w : Nat→List Nat) (R : Nat→List Nat) (g : List LObj) (i : Nat) : Prop :=
  (i = 0∧LexAt g c (lexI L) 1 (R 0) [])∨(i < W.N∧LexAt g c (lexI L) (W.row i) (R (i + 1)) [.str (w i)])∨(i = W.N∧∃ ln,LexAt g c (lexI L) ln [] [])
noncomputable def qj (W : Wk) (w : Nat→List Nat) (i : Nat) : List Nat := if i < W.N then w i else []
variable {n : Nat} {fr : Addr} {W : Wk} {w R : Nat→List Nat} {p : Nat × Nat}
theorem RdAt.any {i : Nat} (h : RdAt c L W R g i) : ∃ ln cs,LexAt g c (lexI L) ln cs [] := by
  rcases h with ⟨_,h⟩ | ⟨_,_,h⟩ <;> exact ⟨_,_,h⟩
theorem BtAt.any {i : Nat} (h : BtAt c L W w R g i) : ∃ ln cs pb,LexAt g c (lexI L) ln cs pb := by
  rcases h with ⟨_,h⟩ | ⟨_,h⟩ | ⟨_,_,h⟩ <;> exact ⟨_,_,_,h⟩
theorem RdAt.map {i : Nat} (h : RdAt c L W R g i) (f : ∀ ln cs,LexAt g c (lexI L) ln cs []→LexAt g' c (lexI L) ln cs []) : RdAt c L W R g' i := by
  rcases h with ⟨a,h⟩ | ⟨a,ln,h⟩
  · exact .inl ⟨a,f _ _ h⟩
  · exact .inr ⟨a,ln,f _ _ h⟩
theorem BtAt.map {i : Nat} (h : BtAt c L W w R g i) (f : ∀ ln cs pb,LexAt g c (lexI L) ln cs pb→LexAt g' c (lexI L) ln cs pb) : BtAt c L W w R g' i := by
  rcases h with ⟨a,h⟩ | ⟨a,h⟩ | ⟨a,ln,h⟩
  · exact .inl ⟨a,f _ _ _ h⟩
  · exact .inr (.inl ⟨a,f _ _ _ h⟩)
  · exact .inr (.inr ⟨a,ln,f _ _ _ h⟩)
theorem Job.first (J : Job n c fr L W w R p) {i : Nat} (h : BtAt c L W w R g i) : ∃ g',qc n c fr [.ref (L + 6)] g = some (.str (qj W w i),g')∧RdAt c L W R g' i∧Keep [L + 5,L + 1,L + 7] g g' := by
  rcases h with ⟨rfl,h⟩ | ⟨hi,h⟩ | ⟨rfl,ln,h⟩
  · obtain ⟨g',e,h',k⟩ := J.tok 0 J.pos g h
    exact ⟨g',by rw [e]; unfold qj; rw [if_pos J.pos],.inl ⟨J.pos,h'⟩,k.mono (by simp)⟩
  · refine ⟨_,by unfold qj; rw [if_pos hi]; exact zjd n h (by simp),.inl ⟨hi,h.setPb []⟩,Keep.set (by simp) _⟩
  · obtain ⟨g',ln',e,h',k⟩ := J.fin g ln [] (.inr rfl) h
    exact ⟨g',by rw [e]; unfold qj; rw [if_neg (o229)],.inr ⟨rfl,ln',h'⟩,k.mono (by simp)⟩
theorem Job.next (J : Job n c fr L W w R p) {i : Nat} (hi : i < W.N) (h : RdAt c L W R g i) : ∃ g',qc n c fr [.ref (L + 6)] g = some (.str (qj W w (i + 1)),g')∧RdAt c L W R g' (i + 1)∧Keep [L + 5,L + 1,L + 7] g g' := by
  rcases h with ⟨_,h⟩ | ⟨hN,_⟩
  · by_cases q : i + 1 < W.N
    · obtain ⟨g',e,h',k⟩ := J.tok (i + 1) q g (by rw [if_neg (o230)]; exact h)
      exact ⟨g',by rw [e]; unfold qj; rw [if_pos q],.inl ⟨q,h'⟩,k.mono (by simp)⟩
    · have : i + 1 = W.N := by exact o231 hi q
      rw [this] at h ⊢
      obtain ⟨g',ln',e,h',k⟩ := J.fin g _ _ (.inl rfl) h
      exact ⟨g',by rw [e]; unfold qj; rw [if_neg (o229)],.inr ⟨rfl,ln',h'⟩,k.mono (by simp)⟩
  · exact (o232 hi hN).elim
theorem zlc (h : LexAt g c (lexI L) ln cs pb) {v : V} (e : qc n c fr [.ref (L + 6)] g = some (v,g')) {loc : List (Option V)} (hl : loc[4]? = some (some (.ref (L + 6)))) :
    vo c "get_token" (qc n c fr) (ldE 4) nilL ⟨loc,g⟩ = some (v,⟨loc,g'⟩) := by
  dsimp? only [zej,qn,hl,show insOf g (.ref (L + 6)) = some (c,L + 5,ji (lexI L) ln) from h.insOf,look_gt,Option.isNone_none,and_self,if_true,j9,e]
theorem zbf (J : Job n c fr L W w R p) {i : Nat} : qj W w i≠[]↔i < W.N := by
  unfold qj
  by_cases q : i < W.N
  · obtain ⟨a,b,cc,_,_,_,e,_⟩ := J.card i q
    rw [if_pos q,e]; simp [wrd,q]
  · rw [if_neg q]; simp [q]
theorem neS {g : List LObj} (a : List Nat) : neV g (.str a) (.str []) = some (decide (a≠[])) := by
  unfold neV eqV
  cases a <;> simp
theorem neL {g : List LObj} {a : Nat} {xs : List V} (h : g[a]? = some (.lst xs)) : neV (g++[LObj.lst []]) (.ref a) (.ref g.length) = some (decide (xs≠[])) := by
  unfold neV eqV zc1
  simp only [qw h,jm,zzz]
  cases xs with
  | nil => rfl
  | cons x r => rw [if_neg (by simp)]; simp
noncomputable def inV' : Option T3→V
  | none => .tup []
  | some m => it m
theorem neT {g : List LObj} (m : Option T3) : neV g (inV' m) (.tup []) = some m.isSome := by cases m <;> rfl
theorem hear (J : Job n c fr L W w R p) (hn : 1000 < n) (S : ST L gb g hs pl hd) {i h : Nat} (hi : i < W.N) (hh : IsHeap hs) (hz : hs.length≤100) (hdz : hd.length≤100) (hr : RdAt c L W R g i) (t rd sm : Option V) (x10 x12 : Option V) :
    ∃ hs' g' x12',(seqS (ja (q5 qf zt (ldE 7) (zl (ldE 11) nilL))) (seqS (asgS 12 (zr (j0 n) (zl (zr (q7 n) (zl (ldE 11) nilL)) (zl (ldE 1) nilL)))) (seqS (ja (zr (ki n) (zl (ldE 5) (zl (tupE (zl (binE subV (zu (ldE 12) (zd (.int 1))) (zd (.int 240))) (zl (ldE 8) (zl (zu (ldE 12) (zd (.int 2))) nilL)))) nilL)))) (seqS (asgS 8 (binE addV (ldE 8) (zd (.int 1)))) (seqS (asgS 11 (vo c "get_token" (qc n c fr) (ldE 4) nilL)) zm)))))
        ⟨[t,some (.bytes [p.1.toUInt8,p.2.toUInt8]),rd,sm,some (.ref (L + 6)),some (.ref (L + 8)),some (.ref (L + 9)),some (.ref (L + 10)),some (.int (i : Int)),some (.int (h : Int)),x10,some (.str (qj W w i)),x12],g⟩ =
      some (.next,⟨[t,some (.bytes [p.1.toUInt8,p.2.toUInt8]),rd,sm,some (.ref (L + 6)),some (.ref (L + 8)),some (.ref (L + 9)),some (.ref (L + 10)),some (.int ((i + 1 : Nat) : Int)),some (.int (h : Int)),x10,some (.str (qj W w (i + 1))),x12'],g'⟩) ∧
      ST L gb g' hs' pl (hd++[.str (w i)])∧hs'.Perm (hs++[(W.due i,(i : Int),W.hrs i)])∧IsHeap hs'∧RdAt c L W R g' (i + 1) := by
  obtain ⟨a,b,cc,ha,hb,hc,ew,ed,eh⟩ := J.card i hi
  have hwi : qj W w i = wrd p.1 p.2 a b cc := by unfold qj; rw [if_pos hi,ew]
  have hwl : (wrd p.1 p.2 a b cc).length = 4 := by simp [wrd]
  have hw256 : ∀ s ∈ wrd p.1 p.2 a b cc,s < 256 := by
    intro s hs
    have sm := zig p J.pair
    simp only [wrd,List.mem_cons,List.not_mem_nil,or_false] at hs
    rcases hs with rfl | rfl | rfl | rfl
    · exact (sm _ (by exact o172 ha)).1
    · exact (sm _ (by exact o233 hb ed)).1
    · exact (sm _ (by exact o234 hc ed eh)).1
    · exact (sm _ (by exact o235 eh)).1
  have a1 : zt [.ref (L + 10),.str (qj W w i)] g = some (.none,g.set (L + 10) (.lst (hd++[.str (w i)]))) := by
    simp only [zt,S.heard]; rw [if_pos (by rw [qy]; exact o236 hdz)]; unfold qj; rw [if_pos hi]
  have l1 : qf g (.ref (L + 10)) = true := by simp only [qf,S.heard]
  have S1 := S.setHeard (hd++[.str (w i)])
  have r1 : RdAt c L W R (g.set (L + 10) (.lst (hd++[.str (w i)]))) i := hr.map fun ln cs h => h.other (o237) _
  generalize g.set (L + 10) (.lst (hd++[.str (w i)])) = g1 at *
  obtain ⟨j1,e1⟩ := zdm n (wrd p.1 p.2 a b cc) (o238 hn hwl) (o239 hwl) hw256 g1
  obtain ⟨j2,e2⟩ := zji n (o240 hn) p J.pair a b cc ha hb hc (g1++j1)
  have S2 := (S1.app j1).app j2
  have r2 : RdAt c L W R (g1++j1++j2) i := (r1.map fun ln cs h => h.app j1).map fun ln cs h => h.app j2
  generalize g1++j1++j2 = g2 at *
  have i1 : jg g2 (.bytes [a.toUInt8,b.toUInt8,cc.toUInt8]) (.int 1) = some (.int (b : Int)) := by
    unfold jg; simp only; rw [if_pos ⟨by decide,by simp; decide⟩]; simp [u8 hb]
  have i2 : jg g2 (.bytes [a.toUInt8,b.toUInt8,cc.toUInt8]) (.int 2) = some (.int (cc : Int)) := by
    unfold jg; simp only; rw [if_pos ⟨by decide,by simp; decide⟩]; simp [u8 hc]
  obtain ⟨hs',e3,p3,h3⟩ := zf5 n g2 (L + 8) hs (W.due i,(i : Int),W.hrs i) S2.heap (by rw [qy]; exact o241 hz) hh (o242 hn hz)
  have S3 := S2.setHeap hs'
  have r3 : RdAt c L W R (g2.set (L + 8) (.lst (hs'.map it))) i := r2.map fun ln cs h => h.other (o243) _
  generalize g2.set (L + 8) (.lst (hs'.map it)) = g3 at *
  obtain ⟨g4,e4,r4,k4⟩ := J.next hi r3
  obtain ⟨_,_,x3⟩ := r3.any
  have S4 := S3.lex k4
  refine ⟨hs',g4,some (.bytes [a.toUInt8,b.toUInt8,cc.toUInt8]),?_,S4,p3,h3,r4⟩
  have gt := fun loc hl => zlc (n := n) (fr := fr) x3 e4 (loc := loc) hl
  have h3z : (3 : Nat)≤szL := by decide
  have tit : V.tup [.int ((b : Int) - 240),.int (i : Int),.int (cc : Int)] = it (W.due i,(i : Int),W.hrs i) := by unfold it; rw [ed,eh]
  rw [hwi] at a1 ⊢
  simp? only [l1,a1,if_true,e1,e2,i1,i2,subV,List.length_cons,List.length_nil,Nat.reduceAdd,h3z,tit,e3,addV]
  rw [gt _ rfl]
  simp? only [zj]
  rw [show (i : Int) + 1 = ((i + 1 : Nat) : Int) by exact o244]
end Mine
end
section
namespace Mine
open PySem PyProof.Rows
variable {L : Nat} {gb g g' : List LObj} {hs : List T3} {pl hd : List V} {c : Addr} {ln : Int} {cs : List Nat} {pb : List V}
variable {n : Nat} {fr : Addr} {W : Wk} {w R : Nat→List Nat} {p : Nat × Nat} {rem : Nat→Nat→Int} {pk : Nat→Option Nat}
noncomputable abbrev hB (n : Nat) (c fr : Addr) : LM Fl := (seqS (ja (q5 qf zt (ldE 7) (zl (ldE 11) nilL))) (seqS (asgS 12 (zr (j0 n) (zl (zr (q7 n) (zl (ldE 11) nilL)) (zl (ldE 1) nilL)))) (seqS (ja (zr (ki n) (zl (ldE 5) (zl (tupE (zl (binE subV (zu (ldE 12) (zd (.int 1))) (zd (.int 240))) (zl (ldE 8) (zl (zu (ldE 12) (zd (.int 2))) nilL)))) nilL)))) (seqS (asgS 8 (binE addV (ldE 8) (zd (.int 1)))) (seqS (asgS 11 (vo c "get_token" (qc n c fr) (ldE 4) nilL)) zm)))))
noncomputable def vq (w : Nat→List Nat) (i : Nat) : List V := (List.range i).map fun j => V.str (w j)
theorem zhs (w : Nat→List Nat) (i : Nat) : vq w (i + 1) = vq w i++[.str (w i)] := by unfold vq; rw [List.range_succ,List.map_append]; rfl
theorem zfu (h i : Nat) : (vc W rem h i).length≤i := by
  unfold vc
  have := List.length_filterMap_le (pf W rem h) (List.range i)
  simpa using this
noncomputable abbrev locL (p : Nat × Nat) (L : Nat) (t rd sm : Option V) (i h : Nat) (x10 : Option V) (wd : List Nat) (x12 : Option V) : List (Option V) :=
  [t,some (.bytes [p.1.toUInt8,p.2.toUInt8]),rd,sm,some (.ref (L + 6)),some (.ref (L + 8)),some (.ref (L + 9)),some (.ref (L + 10)),some (.int (i : Int)),some (.int (h : Int)),x10,some (.str wd),x12]
theorem zk8 (J : Job n c fr L W w R p) (O : WkOk W) (Sm : Sim W rem pk) (hn : 1000 < n) (hN : W.N≤50) {i0 h : Nat} (hi0 : i0≤W.N) (harr : ∀ j,j < W.N→(j < i0↔W.row j≤(h : Int) - 1)) (inh : Option T3) (S : ST L gb g hs pl (vq w i0)) (hh : IsHeap hs) (hp : (hs++inh.toList).Perm (vc W rem h i0)) (hr : RdAt c L W R g i0) (t rd sm x10 x12 : Option V) :
    ∃ i hs' g' x12',jq n (andT (cmpT neV (ldE 11) (zd (.str []))) (cmpT leV (wx c "lineno" (ldE 4)) (ldE 9))) (hB n c fr) ⟨locL p L t rd sm i0 h x10 (qj W w i0) x12,g⟩ = some (.next,⟨locL p L t rd sm i h x10 (qj W w i) x12',g'⟩) ∧
      i≤W.N∧(∀ j,j < W.N→(j < i↔W.row j≤(h : Int)))∧ST L gb g' hs' pl (vq w i)∧IsHeap hs'∧(hs'++inh.toList).Perm (vc W rem h i)∧RdAt c L W R g' i := by
  let P : St→Prop := fun st => ∃ i hs g x12,st = ⟨locL p L t rd sm i h x10 (qj W w i) x12,g⟩∧i0≤i∧i≤W.N∧(∀ j,j < i→W.row j≤(h : Int))∧ST L gb g hs pl (vq w i)∧IsHeap hs∧(hs++inh.toList).Perm (vc W rem h i)∧RdAt c L W R g i
  let Q : St→Prop := fun st => ∃ i hs g x12,st = ⟨locL p L t rd sm i h x10 (qj W w i) x12,g⟩∧i≤W.N∧(∀ j,j < W.N→(j < i↔W.row j≤(h : Int)))∧ST L gb g hs pl (vq w i)∧IsHeap hs∧(hs++inh.toList).Perm (vc W rem h i)∧RdAt c L W R g i
  let μ : St→Nat := fun st => match st.loc[8]? with
    | some (some (V.int i)) => W.N - i.toNat
    | _ => 0
  have loop := v3 (t := andT (cmpT neV (ldE 11) (zd (.str []))) (cmpT leV (wx c "lineno" (ldE 4)) (ldE 9))) (f := hB n c fr) (P := P) (Q := Q) (μ := μ) ?_ n ⟨locL p L t rd sm i0 h x10 (qj W w i0) x12,g⟩ ?_ ?_
  · obtain ⟨st',e,i,hs',g',x12',rfl,h1,h2,h3,h4,h5,h6⟩ := loop
    exact ⟨i,hs',g',x12',e,h1,h2,h3,h4,h5,h6⟩
  · rintro st hx0; obtain ⟨i,hs,g,x12,rfl,hi0',hiN,hrows,S,hh,hp,hr⟩ := hx0
    by_cases q : i < W.N
    · have hx : LexAt g c (lexI L) (W.row i) (R (i + 1)) [] := by
        rcases hr with ⟨_,hx⟩ | ⟨he,_⟩
        · exact hx
        · exact (o232 q he).elim
      have hne : qj W w i≠[] := (zbf J).mpr q
      have ea : ∀ x12,wx c "lineno" (ldE 4) ⟨locL p L t rd sm i h x10 (qj W w i) x12,g⟩ = some (.int (W.row i),⟨locL p L t rd sm i h x10 (qj W w i) x12,g⟩) := fun x12 => by
        simp? only [zba,locL,show insOf g (.ref (L + 6)) = some (c,L + 5,ji (lexI L) (W.row i)) from hx.insOf,if_true,zb0,Option.map_some]
      by_cases qr : W.row i≤(h : Int)
      · left
        have hlen : hs.length≤100 := by
          have := hp.length_eq
          have := zfu (W := W) (rem := rem) h i
          simp only [List.length_append] at *
          exact o245 hN q (by assumption) this
        obtain ⟨hs',g',x12',e,S',p',h',r'⟩ := hear J hn S (h := h) q hh hlen (by unfold vq; simp; exact o246 hN q) hr t rd sm x10 x12
        refine ⟨⟨locL p L t rd sm i h x10 (qj W w i) x12,g⟩,⟨locL p L t rd sm (i + 1) h x10 (qj W w (i + 1)) x12',g'⟩,?_,.inl e,?_,?_⟩
        · rw [zcq,jp]
          try dsimp? only [zj]
          simp? only [locL,neS,decide_eq_true hne]
          rw [ea x12]
          simp? only [locL,zhm qr]
        · have hrem : rem h i = W.hrs i := Sm.before h i (by
            by_cases z : W.row i≤(h : Int) - 1
            · have := (harr i q).mpr z; exact o247 hi0' this
            · exact o248 qr z)
          have hpos : 0 < rem h i := by rw [hrem]; have := O.hrs i q; exact o249 this
          refine ⟨i + 1,hs',g',x12',rfl,by exact o19 hi0',by exact o11 q,fun j hj => ?_,by rw [zhs]; exact S',h',?_,r'⟩
          · by_cases z : j = i
            · subst z; exact qr
            · exact hrows j (o250 hj z)
          · rw [zi6 hpos,hrem]
            have : (hs'++inh.toList).Perm (hs++[(W.due i,(i : Int),W.hrs i)]++inh.toList) := p'.append_right _
            refine this.trans ?_
            rw [List.append_assoc]
            refine (List.Perm.append_left hs List.perm_append_comm).trans ?_
            rw [← List.append_assoc]
            exact hp.append_right _
        · show W.N - ((i + 1 : Nat) : Int).toNat < W.N - (i : Int).toNat
          exact o251 hN q
      · right; left
        refine ⟨⟨locL p L t rd sm i h x10 (qj W w i) x12,g⟩,?_,⟨i,hs,g,x12,rfl,hiN,fun j hj => ⟨fun z => hrows j z,fun z => ?_⟩,S,hh,hp,hr⟩⟩
        · rw [zcq,jp]
          try dsimp? only [zj]
          simp? only [locL,neS,decide_eq_true hne]
          rw [ea x12]
          simp? only [locL,zhn qr]
        · by_cases z' : j < i
          · exact z'
          · have := O.rise i j (o252 z') hj; exact o253 qr z this
    · right; left
      have hne : ¬ qj W w i≠[] := fun z => q ((zbf J).mp z)
      refine ⟨⟨locL p L t rd sm i h x10 (qj W w i) x12,g⟩,?_,⟨i,hs,g,x12,rfl,hiN,fun j hj => ⟨fun z => hrows j z,fun z => by exact o254 hiN q hj⟩,S,hh,hp,hr⟩⟩
      rw [zcq,jp]
      try dsimp? only [zj]
      simp? only [locL,neS,decide_eq_false hne]
  · exact ⟨i0,hs,g,x12,rfl,Nat.le_refl _,hi0,fun j hj => by have := (harr j (by exact o255 hi0 hj)).mp hj; exact o256 this,S,hh,hp,hr⟩
  · show W.N - (i0 : Int).toNat < n
    exact o257 hn hN hi0
noncomputable abbrev tail1 (n : Nat) (c : Addr) : LM Fl := (seqS (iteL (cmpT neV (ldE 11) (zd (.str []))) (seqS (ja (vo c "push_token" (jh n c) (ldE 4) (zl (ldE 11) nilL))) zm) zm) (seqS (iteL (cmpT neV (ldE 10) (tupE nilL)) (seqS (asgS 10 (zr (jc n) (zl (ldE 5) (zl (ldE 10) nilL)))) zm) (seqS (iteL (cmpT neV (ldE 5) (lstE nilL)) (seqS (asgS 10 (zr (ky n) (zl (ldE 5) nilL))) zm) zm) zm)) (seqS (ja (q5 qf zt (ldE 6) (zl (iteL (cmpT neV (ldE 10) (tupE nilL)) (zu (ldE 10) (zd (.int 1))) (unE negV (zd (.int 1)))) nilL))) (seqS (iteL (cmpT neV (ldE 10) (tupE nilL)) (seqS (asgS 10 (iteL (cmpT gtV (zu (ldE 10) (zd (.int 2))) (zd (.int 1))) (tupE (zl (zu (ldE 10) (zd (.int 0))) (zl (zu (ldE 10) (zd (.int 1))) (zl (binE subV (zu (ldE 10) (zd (.int 2))) (zd (.int 1))) nilL)))) (tupE nilL))) zm) zm) (seqS (asgS 9 (binE addV (ldE 9) (zd (.int 1)))) zm)))))
theorem take_run (J : Job n c fr L W w R p) (hn : 1000 < n) {i h : Nat} (hz : hs.length≤100) (inh : Option T3) (S : ST L gb g hs pl hd) (hh : IsHeap hs) (hr : BtAt c L W w R g i) (t rd sm x12 : Option V) (wd : List Nat) :
    ∃ (m? : Option T3) (ys : List T3) (g' : List LObj),(iteL (cmpT neV (ldE 10) (tupE nilL)) (seqS (asgS 10 (zr (jc n) (zl (ldE 5) (zl (ldE 10) nilL)))) zm) (seqS (iteL (cmpT neV (ldE 5) (lstE nilL)) (seqS (asgS 10 (zr (ky n) (zl (ldE 5) nilL))) zm) zm) zm)) ⟨locL p L t rd sm i h (some (inV' inh)) wd x12,g⟩ = some (.next,⟨locL p L t rd sm i h (some (inV' m?)) wd x12,g'⟩) ∧
      ST L gb g' ys pl hd∧IsHeap ys∧BtAt c L W w R g' i∧(match m? with | none => hs = []∧inh = none∧ys = [] | some m => (m :: ys).Perm (hs++inh.toList)∧∀ y ∈ ys,le3 m y) := by
  have h0 : (0 : Nat)≤szL := Nat.zero_le _
  cases inh with
  | some v =>
    obtain ⟨m,ys,e,p1,h1,l1⟩ := zb6 n g (L + 8) hs v S.heap (by rw [qy]; exact o236 hz) hh (o242 hn hz)
    refine ⟨some m,ys,g.set (L + 8) (.lst (ys.map it)),?_,S.setHeap ys,h1,hr.map fun ln cs pb hx => hx.other (o243) _,p1.trans (List.perm_append_singleton v hs).symm,l1⟩
    simp? only [locL,List.length_nil,h0,if_true,neT,Option.isSome_some]
    simp only [inV',e]
    rfl
  | none =>
    have S1 := S.app [LObj.lst []]
    have r1 : BtAt c L W w R (g++[LObj.lst []]) i := hr.map fun ln cs pb hx => hx.app _
    have nl := neL S.heap
    by_cases q : hs = []
    · subst q
      refine ⟨none,[],g++[LObj.lst []],?_,S1,hh,r1,rfl,rfl,rfl⟩
      simp? only [locL,List.length_nil,h0,if_true,neT,Option.isSome_none]
      rw [nl]
      dsimp? only [List.map_nil,ne_eq,not_true_eq_false,decide_false,zj]
    · obtain ⟨m,ys,e,p1,h1,l1⟩ := zhu n (g++[LObj.lst []]) (L + 8) hs S1.heap (by rw [qy]; exact o236 hz) hh (by
        cases hs with
        | nil => exact absurd rfl q
        | cons a r => simp) (o242 hn hz)
      refine ⟨some m,ys,(g++[LObj.lst []]).set (L + 8) (.lst (ys.map it)),?_,S1.setHeap ys,h1,r1.map fun ln cs pb hx => hx.other (o243) _,by simpa using p1,l1⟩
      simp? only [locL,List.length_nil,h0,if_true,neT,Option.isSome_none]
      rw [nl,decide_eq_true (by simpa using q)]
      simp? only [e,inV']
end Mine
end
section
namespace Mine
open PySem PyProof.Rows
variable {L : Nat} {gb g g' : List LObj} {hs : List T3} {pl hd : List V} {c : Addr} {ln : Int} {cs : List Nat} {pb : List V}
variable {n : Nat} {fr : Addr} {W : Wk} {w R : Nat→List Nat} {p : Nat × Nat} {rem : Nat→Nat→Int} {pk : Nat→Option Nat}
theorem back_run (J : Job n c fr L W w R p) {i h : Nat} (hiN : i≤W.N) (S : ST L gb g hs pl hd) (hr : RdAt c L W R g i) (t rd sm x10 x12 : Option V) :
    ∃ g',(iteL (cmpT neV (ldE 11) (zd (.str []))) (seqS (ja (vo c "push_token" (jh n c) (ldE 4) (zl (ldE 11) nilL))) zm) zm) ⟨locL p L t rd sm i h x10 (qj W w i) x12,g⟩ = some (.next,⟨locL p L t rd sm i h x10 (qj W w i) x12,g'⟩) ∧
      ST L gb g' hs pl hd∧BtAt c L W w R g' i := by
  rcases hr with ⟨q,hx⟩ | ⟨rfl,ln,hx⟩
  · have hne : qj W w i≠[] := (zbf J).mpr q
    have e := push_run n hx (by simp) (.str (qj W w i))
    refine ⟨g.set (L + 7) (.lst ([]++[.str (qj W w i)])),?_,S.lex (Keep.set (by simp) _),.inr (.inl ⟨q,?_⟩)⟩
    · simp? only [locL,neS,decide_eq_true hne]
      simp? only [zej,show insOf g (.ref (L + 6)) = some (c,L + 5,ji (lexI L) (W.row i)) from hx.insOf,look_pt,Option.isNone_none,and_self,if_true,show jh n c [.ref (L + 6),.str (qj W w i)] g = some (.none,g.set (L + 7) (.lst ([]++[.str (qj W w i)]))) from e]
    · have := hx.setPb [.str (qj W w i)]
      unfold qj at this ⊢
      rw [if_pos q] at this ⊢
      exact this
  · have hne : ¬ qj W w W.N≠[] := fun z => absurd ((zbf J).mp z) (o229)
    refine ⟨g,?_,S,.inr (.inr ⟨rfl,ln,hx⟩)⟩
    simp? only [locL,neS,decide_eq_false hne]
theorem gt1 {g : List LObj} {a : Int} : gtV g (.int a) (.int 1) = some (decide (1 < a)) := rfl
noncomputable def inI : Option T3→Int
  | some m => m.2.1
  | none => -1
noncomputable def left1 (m : T3) : Option T3 := if 1 < m.2.2 then some (m.1,m.2.1,m.2.2 - 1) else none
theorem rest_run {i h : Nat} (S : ST L gb g hs pl hd) (hz : pl.length≤100000) (hr : BtAt c L W w R g i) (m? : Option T3) (t rd sm x12 : Option V) (wd : List Nat) :
    ∃ g',(seqS (ja (q5 qf zt (ldE 6) (zl (iteL (cmpT neV (ldE 10) (tupE nilL)) (zu (ldE 10) (zd (.int 1))) (unE negV (zd (.int 1)))) nilL))) (seqS (iteL (cmpT neV (ldE 10) (tupE nilL)) (seqS (asgS 10 (iteL (cmpT gtV (zu (ldE 10) (zd (.int 2))) (zd (.int 1))) (tupE (zl (zu (ldE 10) (zd (.int 0))) (zl (zu (ldE 10) (zd (.int 1))) (zl (binE subV (zu (ldE 10) (zd (.int 2))) (zd (.int 1))) nilL)))) (tupE nilL))) zm) zm) (seqS (asgS 9 (binE addV (ldE 9) (zd (.int 1)))) zm))) ⟨locL p L t rd sm i h (some (inV' m?)) wd x12,g⟩ =
      some (.next,⟨locL p L t rd sm i (h + 1) (some (inV' (m?.bind left1))) wd x12,g'⟩)∧ST L gb g' hs (pl++[.int (inI m?)]) hd∧BtAt c L W w R g' i := by
  have h0 : (0 : Nat)≤szL := Nat.zero_le _
  have h3 : (3 : Nat)≤szL := by decide
  have l1 : qf g (.ref (L + 9)) = true := by simp only [qf,S.plan]
  have ap : ∀ v,zt [.ref (L + 9),v] g = some (.none,g.set (L + 9) (.lst (pl++[v]))) := fun v => by simp only [zt,S.plan]; rw [if_pos (by rw [qy]; exact o208 hz)]
  have hc : (h : Int) + 1 = ((h + 1 : Nat) : Int) := by exact o244
  cases m? with
  | none =>
    refine ⟨g.set (L + 9) (.lst (pl++[.int (-1)])),?_,S.setPlan _,hr.map fun ln cs pb hx => hx.other (o258) _⟩
    simp? only [locL,List.length_nil,h0,if_true,neT,Option.isSome_none,negV,l1,ap,addV,Option.bind_none]
    rw [hc]
  | some m =>
    have t1 := fun g => yw g m
    have nT : ∀ g : List LObj,neV g (it m) (.tup []) = some true := fun g => rfl
    refine ⟨g.set (L + 9) (.lst (pl++[.int m.2.1])),?_,S.setPlan _,hr.map fun ln cs pb hx => hx.other (o258) _⟩
    by_cases q : 1 < m.2.2
    · have hl : left1 m = some (m.1,m.2.1,m.2.2 - 1) := if_pos q
      simp? only [locL,List.length_nil,h0,if_true,neT,Option.isSome_some]
      simp? only [inV',nT,(t1 _).1,(t1 _).2.1,(t1 _).2.2,l1,ap,if_true,Option.bind_some,hl,gt1,decide_eq_true q,subV,addV,List.length_cons,List.length_nil,Nat.reduceAdd,h3,h0]
      rw [hc]
      try rfl
    · have hl : left1 m = none := if_neg q
      simp? only [locL,List.length_nil,h0,if_true,neT,Option.isSome_some]
      simp? only [inV',nT,(t1 _).1,(t1 _).2.1,(t1 _).2.2,l1,ap,if_true,Option.bind_some,hl,gt1,decide_eq_false q,subV,addV,List.length_cons,List.length_nil,Nat.reduceAdd,h3,h0]
      rw [hc]
      try rfl
end Mine
end
section
namespace Mine
open PySem PyProof.Rows
variable {L : Nat} {gb g g' : List LObj} {hs : List T3} {pl hd : List V} {c : Addr} {ln : Int} {cs : List Nat} {pb : List V}
variable {n : Nat} {fr : Addr} {W : Wk} {w R : Nat→List Nat} {p : Nat × Nat} {rem : Nat→Nat→Int} {pk : Nat→Option Nat}
noncomputable abbrev zgc : LM Bool := (orT (cmpT neV (ldE 11) (zd (.str []))) (orT (cmpT neV (ldE 5) (lstE nilL)) (cmpT neV (ldE 10) (tupE nilL))))
noncomputable abbrev restB : LM Fl := (seqS (ja (q5 qf zt (ldE 6) (zl (iteL (cmpT neV (ldE 10) (tupE nilL)) (zu (ldE 10) (zd (.int 1))) (unE negV (zd (.int 1)))) nilL))) (seqS (iteL (cmpT neV (ldE 10) (tupE nilL)) (seqS (asgS 10 (iteL (cmpT gtV (zu (ldE 10) (zd (.int 2))) (zd (.int 1))) (tupE (zl (zu (ldE 10) (zd (.int 0))) (zl (zu (ldE 10) (zd (.int 1))) (zl (binE subV (zu (ldE 10) (zd (.int 2))) (zd (.int 1))) nilL)))) (tupE nilL))) zm) zm) (seqS (asgS 9 (binE addV (ldE 9) (zd (.int 1)))) zm)))
noncomputable abbrev we (n : Nat) (c fr : Addr) : LM Fl := (seqS (asgS 11 (vo c "get_token" (qc n c fr) (ldE 4) nilL)) (seqS (jq n (andT (cmpT neV (ldE 11) (zd (.str []))) (cmpT leV (wx c "lineno" (ldE 4)) (ldE 9))) (hB n c fr)) (seqS (iteL (cmpT neV (ldE 11) (zd (.str []))) (seqS (ja (vo c "push_token" (jh n c) (ldE 4) (zl (ldE 11) nilL))) zm) zm) (seqS (iteL (cmpT neV (ldE 10) (tupE nilL)) (seqS (asgS 10 (zr (jc n) (zl (ldE 5) (zl (ldE 10) nilL)))) zm) (seqS (iteL (cmpT neV (ldE 5) (lstE nilL)) (seqS (asgS 10 (zr (ky n) (zl (ldE 5) nilL))) zm) zm) zm)) restB))))
theorem cond_run (S : ST L gb g hs pl hd) (i h : Nat) (inh : Option T3) (t rd sm x12 : Option V) (wd : List Nat) :
    ∃ b junk,zgc ⟨locL p L t rd sm i h (some (inV' inh)) wd x12,g⟩ = some (b,⟨locL p L t rd sm i h (some (inV' inh)) wd x12,g++junk⟩)∧(b = true↔(wd≠[]∨hs≠[]∨inh≠none)) := by
  have h0 : (0 : Nat)≤szL := Nat.zero_le _
  have nl := neL S.heap
  by_cases q : wd≠[]
  · refine ⟨true,[],?_,by simp [q]⟩
    unfold zgc
    simp? only [locL,neS,decide_eq_true q,List.append_nil]
  · by_cases q2 : hs≠[]
    · refine ⟨true,[.lst []],?_,by simp [q2]⟩
      unfold zgc
      simp? only [locL,neS,decide_eq_false q,List.length_nil,h0,if_true]
      rw [nl,decide_eq_true (by simpa using q2)]
      rfl
    · refine ⟨inh.isSome,[.lst []],?_,by cases inh <;> simp_all⟩
      unfold zgc
      simp? only [locL,neS,decide_eq_false q,List.length_nil,h0,if_true]
      rw [nl,decide_eq_false (by simpa using q2)]
      simp? only [List.length_nil,h0,if_true,neT]
theorem turn_run (J : Job n c fr L W w R p) (O : WkOk W) (Sm : Sim W rem pk) (hn : 1000 < n) (hN : W.N≤50) {i h : Nat} (hh1 : 1≤h) (hiN : i≤W.N) (harr : ∀ j,j < W.N→(j < i↔W.row j≤(h : Int) - 1)) (inh : Option T3) (hh5 : h≤1000)
    (S : ST L gb g hs ((Sim.planL pk (h - 1)).map .int) (vq w i)) (hh : IsHeap hs) (hp : (hs++inh.toList).Perm (vc W rem h i)) (hr : BtAt c L W w R g i) (t rd sm x12 : Option V) (wd : List Nat) :
    ∃ i' hs' inh' g' x12',we n c fr ⟨locL p L t rd sm i h (some (inV' inh)) wd x12,g⟩ = some (.next,⟨locL p L t rd sm i' (h + 1) (some (inV' inh')) (qj W w i') x12',g'⟩) ∧
      i'≤W.N∧(∀ j,j < W.N→(j < i'↔W.row j≤((h + 1 : Nat) : Int) - 1))∧ST L gb g' hs' ((Sim.planL pk h).map .int) (vq w i')∧IsHeap hs'∧(hs'++inh'.toList).Perm (vc W rem (h + 1) i')∧BtAt c L W w R g' i' := by
  obtain ⟨g1,e1,r1,k1⟩ := J.first hr
  obtain ⟨_,_,_,hx⟩ := hr.any
  have S1 := S.lex k1
  obtain ⟨i',hs1,g2,x12',e2,hi',harr',S2,h2,p2,r2⟩ := zk8 J O Sm hn hN hiN harr inh S1 hh hp r1 t rd sm (some (inV' inh)) x12
  obtain ⟨g3,e3,S3,r3⟩ := back_run J (h := h) hi' S2 r2 t rd sm (some (inV' inh)) x12'
  have hlen : hs1.length≤100 := by
    have := p2.length_eq
    have := zfu (W := W) (rem := rem) h i'
    simp only [List.length_append] at *
    exact o259 hN hi' (by assumption) this
  obtain ⟨m?,ys,g4,e4,S4,h4,r4,hm⟩ := take_run J hn (h := h) hlen inh S3 h2 r3 t rd sm x12' (qj W w i')
  obtain ⟨g5,e5,S5,r5⟩ := rest_run (p := p) (h := h) S4 (by rw [List.length_map,Sim.planL_len]; exact o260 hh1 hh5) r4 m? t rd sm x12' (qj W w i')
  have harr2 : ∀ j,j < W.N→(j < i'↔W.row j≤((h + 1 : Nat) : Int) - 1) := fun j hj => by have := harr' j hj; omega
  have key : inI m? = Sim.pkI pk h∧(ys++(m?.bind left1).toList).Perm (vc W rem (h + 1) i') := by
    cases m? with
    | none =>
      obtain ⟨rfl,rfl,rfl⟩ := hm
      have hnil : vc W rem h i' = [] := List.Perm.nil_eq p2 |>.symm
      obtain ⟨a,b⟩ := zku Sm hi' harr' hnil
      refine ⟨by unfold Sim.pkI; rw [a]; rfl,?_⟩
      rw [b]; exact .refl _
    | some m =>
      obtain ⟨pm,lm⟩ := hm
      obtain ⟨pp,a,rfl,b,d⟩ := pick_min Sm hi' harr' (pm.trans p2) lm
      refine ⟨by unfold Sim.pkI; rw [a]; rfl,?_⟩
      simp only [Option.bind_some]
      unfold left1
      simp only
      by_cases q : 1 < rem h pp
      · rw [if_pos q] at d ⊢
        exact (List.perm_append_singleton _ ys).trans d
      · rw [if_neg q] at d ⊢
        simpa using d
  rw [key.1] at S5
  have hpl : (Sim.planL pk (h - 1)).map V.int++[.int (Sim.pkI pk h)] = (Sim.planL pk h).map V.int := by
    obtain ⟨k,rfl⟩ : ∃ k,h = k + 1 := ⟨h - 1,by exact o261 hh1 hh5⟩
    rw [Nat.add_sub_cancel,Sim.planL_succ,List.map_append]; rfl
  rw [hpl] at S5
  refine ⟨i',ys,m?.bind left1,g5,x12',?_,hi',harr2,S5,h4,key.2,r5⟩
  unfold we
  rw [zq,qv,zlc hx e1 rfl]
  try dsimp? only [zj]
  simp only [locL,zts,ztz]
  rw [zq,e2]
  try dsimp? only [zj]
  rw [zq,e3]
  try dsimp? only [zj]
  rw [zq,e4]
  try dsimp? only [zj]
  exact e5
theorem zkt (J : Job n c fr L W w R p) (O : WkOk W) (Sm : Sim W rem pk) (hn : 1000 < n) (hN : W.N≤50) {Mx : Nat} (hM5 : Mx≤900) (hMx : ∀ j,j < W.N→Sim.lastOf W j≤Mx)
    (S : ST L gb g [] [] []) (hr : LexAt g c (lexI L) 1 (R 0) []) (t rd sm : Option V) :
    ∃ T g' i' h' x10 wd x12,jq n zgc (we n c fr) ⟨locL p L t rd sm 0 1 (some (.tup [])) [63] none,g⟩ = some (.next,⟨locL p L t rd sm i' h' x10 wd x12,g'⟩) ∧
      ST L gb g' [] ((Sim.planL pk T).map .int) (vq w W.N)∧T≤1000∧(∀ j,j < W.N→Sim.lastOf W j≤T)∧(∃ j,j < W.N∧(T : Int)≤Sim.lastOf W j) := by
  let P : St→Prop := fun st => ∃ i h hs inh wd x12 g,st = ⟨locL p L t rd sm i h (some (inV' inh)) wd x12,g⟩∧1≤h∧i≤W.N∧(wd≠[]↔i < W.N)∧(∀ j,j < W.N→(j < i↔W.row j≤(h : Int) - 1))∧ST L gb g hs ((Sim.planL pk (h - 1)).map .int) (vq w i)∧IsHeap hs∧(hs++inh.toList).Perm (vc W rem h i)∧BtAt c L W w R g i∧h≤Mx + 1∧(∃ j,j < W.N∧(h : Int) - 1≤Sim.lastOf W j)
  let Q : St→Prop := fun st => ∃ T g' i' h' x10 wd x12,st = ⟨locL p L t rd sm i' h' x10 wd x12,g'⟩∧ST L gb g' [] ((Sim.planL pk T).map .int) (vq w W.N)∧T≤1000∧(∀ j,j < W.N→Sim.lastOf W j≤T)∧(∃ j,j < W.N∧(T : Int)≤Sim.lastOf W j)
  let μ : St→Nat := fun st => match st.loc[9]? with
    | some (some (V.int i)) => Mx + 2 - i.toNat
    | _ => 0
  have loop := v3 (t := zgc) (f := we n c fr) (P := P) (Q := Q) (μ := μ) ?_ n ⟨locL p L t rd sm 0 1 (some (.tup [])) [63] none,g⟩ ?_ ?_
  · obtain ⟨st',e,T,g',i',h',x10,wd,x12,rfl,r⟩ := loop
    exact ⟨T,g',i',h',x10,wd,x12,e,r⟩
  · rintro st hx0; obtain ⟨i,h,hs,inh,wd,x12,g,rfl,hh1,hiN,hwd,harr,S,hh,hp,hr,hM,hlast⟩ := hx0
    obtain ⟨b,junk,eb,hb⟩ := cond_run (p := p) S i h inh t rd sm x12 wd
    have S1 := S.app junk
    have r1 : BtAt c L W w R (g++junk) i := hr.map fun ln cs pb hx => hx.app _
    cases b with
    | true =>
      left
      have hc := hb.mp rfl
      -- someone is not done
      have hlive : ∃ j,j < W.N∧(h : Int)≤Sim.lastOf W j := by
        by_cases q : i < W.N
        · have h1 := (harr i q)
          have h2 := Sim.last_ge O q
          exact ⟨i,q,by by_cases z : W.row i≤(h : Int) - 1 <;> omega⟩
        · have hw : ¬ wd≠[] := fun z => q (hwd.mp z)
          have hne : hs++inh.toList≠[] := by
            rcases hc with z | z | z
            · exact absurd z hw
            · intro e; exact z (List.append_eq_nil_iff.mp e).1
            · intro e; have := (List.append_eq_nil_iff.mp e).2; cases inh with
              | none => exact z rfl
              | some m => simp at this
          obtain ⟨x,hx⟩ := List.exists_mem_of_ne_nil _ hne
          obtain ⟨j,hj,hrem,_⟩ := mem_poolL.mp (hp.mem_iff.mp hx)
          have hjN : j < W.N := by exact o264 hiN hlast q hj
          have hrow := (harr j hjN).mp hj
          exact ⟨j,hjN,(Sm.live_iff O hjN (by exact o265 hlast hrow)).mp hrem⟩
      obtain ⟨jl,hjl,hjl2⟩ := hlive
      have hMl := hMx jl hjl
      obtain ⟨i',hs',inh',g',x12',e,hi',harr',S',h',p',r'⟩ := turn_run J O Sm hn hN hh1 hiN harr inh (o266 hM5 hM hlast) S1 hh hp r1 t rd sm x12 wd
      refine ⟨⟨locL p L t rd sm i h (some (inV' inh)) wd x12,g++junk⟩,_,eb,.inl e,⟨i',h + 1,hs',inh',_,x12',g',rfl,by exact o267 hh1 hlast,hi',zbf J,harr',S',h',p',r',by exact o268 hM hlast hjl2 hMl,jl,hjl,by exact o269 hlast hjl2⟩,?_⟩
      show Mx + 2 - ((h + 1 : Nat) : Int).toNat < Mx + 2 - (h : Int).toNat
      exact o270 hh1 hM hlast
    | false =>
      right; left
      have hno : ¬ (wd≠[]∨hs≠[]∨inh≠none) := fun z => by have := hb.mpr z; injection this
      have hi : i = W.N := by
        by_cases q : i < W.N
        · exact absurd (.inl (hwd.mpr q)) hno
        · exact o271 hiN hlast q
      have hhs : hs = [] := Classical.byContradiction fun z => hno (.inr (.inl z))
      have hinh : inh = none := Classical.byContradiction fun z => hno (.inr (.inr z))
      subst hi hhs hinh
      have hnil : vc W rem h W.N = [] := (List.Perm.nil_eq hp).symm
      refine ⟨⟨locL p L t rd sm W.N h (some (inV' none)) wd x12,g++junk⟩,eb,h - 1,g++junk,W.N,h,_,wd,x12,rfl,S1,by exact o272 hM5 hh1 hM hlast,fun j hj => ?_,?_⟩
      · have hrow := (harr j hj).mp hj
        by_cases z : Sim.lastOf W j≤((h - 1 : Nat) : Int)
        · exact z
        · have hl := (Sm.live_iff O hj (h := h) (by exact o265 hlast hrow)).mpr (o273 hh1 hlast z)
          have : (W.due j,(j : Int),rem h j) ∈ vc W rem h W.N := mem_poolL.mpr ⟨j,hj,hl,rfl⟩
          rw [hnil] at this; injection this
      · obtain ⟨j,hj,hj2⟩ := hlast
        exact ⟨j,hj,by exact o274 hh1 hj2⟩
  · refine ⟨0,1,[],none,[63],none,g,rfl,by exact o275,by exact o276 hN,by simp [J.pos],fun j hj => ?_,S,.nil,.refl _,.inl ⟨rfl,hr⟩,by exact o277 hM5,0,J.pos,?_⟩
    · have := O.one j hj; omega
    · have := Sim.last_ge O J.pos
      have := O.one 0 J.pos
      omega
  · show Mx + 2 - (1 : Int).toNat < n
    exact o278 hn hM5
end Mine
end
section
namespace Mine
open PySem PyProof.Rows
variable {n : Nat} {c fr : Addr} {W : Wk} {w R : Nat→List Nat} {p : Nat × Nat}
theorem runP_ret {k n : Nat} {body : Nat→LM Fl} {args : List V} {g : List LObj} {v : V} {st : St} (loc0 : List (Option V)) (hn : args.length = n) (h0 : args.map some++List.replicate (k - n) none = loc0) (h : body g.length ⟨loc0,g++[.ecell]⟩ = some (.ret v,st)) : runP k n body args g = some (v,st.g) := by
  unfold runP; rw [if_pos hn,h0,h]
theorem getB {g l : List LObj} {L : Nat} (h : g.length = L) (i : Nat) : (g++l)[L + i]? = l[i]? := by subst h; exact getA g l i
theorem setB {g l : List LObj} {L : Nat} (h : g.length = L) (i : Nat) (o : LObj) : (g++l).set (L + i) o = g++l.set i o := by subst h; exact setA' g l i o
theorem set0 {g : List LObj} (h : 0 < g.length) (l : List LObj) (o : LObj) : (g++l).set 0 o = g.set 0 o++l := List.set_append_left _ _ h
theorem x8 {c : Addr} {name : Str} {f ob : LM V} {loc : List (Option V)} {g : List LObj} {v w : V} {d : Nat} {kvs : List (Str × V)} {st₁ : St} (h1 : f ⟨loc,g⟩ = some (w,st₁)) (h2 : ob st₁ = some (v,st₁)) (h3 : insOf st₁.g v = some (c,d,kvs)) (h4 : kvs.length < 100) :
    wh c name f ob ⟨loc,g⟩ = some (.next,⟨st₁.loc,st₁.g.set d (.dic (putK name w kvs))⟩) := by
  unfold wh
  rw [qp h1,qp h2]
  simp only [h3]
  rw [if_pos ⟨trivial,h4⟩]
theorem init_run (n : Nat) (c : Addr) {B : List LObj} {L : Nat} (hB : B.length = L) (a0 a1 a2 a3 a4 : LObj) :
    zf4 n c [.ref (L + 6),.ref (L + 3)] (B++[a0,a1,a2,a3,a4,.dic [],.ins c (L + 5)]) = some (.none,B++[a0,a1,a2,a3,a4,.dic (ji (lexI L) 1),.ins c (L + 5),.lst []]) := by
  have io : ∀ (kvs : List (Str × V)) (r : List LObj),insOf (B++a0 :: a1 :: a2 :: a3 :: a4 :: .dic kvs :: .ins c (L + 5) :: r) (.ref (L + 6)) = some (c,L + 5,kvs) := fun kvs r => by
    unfold insOf; simp only [getB hB,zzs,zzz]
  have st : ∀ (kvs kvs' : List (Str × V)) (r : List LObj),(B++a0 :: a1 :: a2 :: a3 :: a4 :: .dic kvs :: .ins c (L + 5) :: r).set (L + 5) (.dic kvs') = B++a0 :: a1 :: a2 :: a3 :: a4 :: .dic kvs' :: .ins c (L + 5) :: r := fun kvs kvs' r => by
    rw [setB hB]; simp only [zts,ztz]
  refine xj (st := ⟨[some (.ref (L + 6)),some (.ref (L + 3))],_⟩) _ rfl rfl ?_
  simp only [init_L,List.length_cons,List.length_nil,List.append_nil,List.map_cons,List.map_nil,Nat.reduceAdd,Nat.reduceSub,List.replicate,List.cons_append,List.nil_append]
  rw [zq,x8 (w := .int 1) (v := .ref (L + 6)) (st₁ := ⟨_,_⟩) rfl rfl (io _ _) (by simp),st]
  try dsimp? only [zj]
  rw [zq,x8 (w := .ref (L + 3)) (v := .ref (L + 6)) (st₁ := ⟨_,_⟩) rfl rfl (io _ _) (by simp [putK]),st]
  try dsimp? only [zj]
  rw [zq,x8 (w := .str [10,9,13,32]) (v := .ref (L + 6)) (st₁ := ⟨_,_⟩) rfl rfl (io _ _) (by show (2 : Nat) < 100; exact o279),st]
  try dsimp? only [zj]
  have e : lstE nilL ⟨[some (V.ref (L + 6)),some (V.ref (L + 3))],B++[a0,a1,a2,a3,a4,.dic (putK "whitespace" (.str [10,9,13,32]) (putK "instream" (.ref (L + 3)) (putK "lineno" (.int 1) []))),.ins c (L + 5)]⟩ = some (.ref (L + 7),⟨[some (V.ref (L + 6)),some (V.ref (L + 3))],B++[a0,a1,a2,a3,a4,.dic (putK "whitespace" (.str [10,9,13,32]) (putK "instream" (.ref (L + 3)) (putK "lineno" (.int 1) []))),.ins c (L + 5),.lst []]⟩) := by
    rw [zen,j9]
    try dsimp? only [zj]
    dsimp? only [List.length_nil,Nat.zero_le,if_true]
    simp [hB]
  rw [zq,x8 (v := .ref (L + 6)) e rfl (io _ _) (by show (3 : Nat) < 100; exact o280),st]
  try dsimp? only [zj]
  rfl
theorem zf0 (n : Nat) (hn : 1000 < n) {rem : Nat→Nat→Int} {pk : Nat→Option Nat} (g : List LObj) {ls : List Nat} (hls : 253 ∉ ls∧255 ∉ ls) (hg : g[0]? = some (.tab ls)) (J : Job n c fr g.length W w R p) (O : WkOk W) (Sm : Sim W rem pk) (hN : W.N≤50) {Mx : Nat} (hM5 : Mx≤900) (hMx : ∀ j,j < W.N→Sim.lastOf W j≤Mx) (hz : (R 0).length≤100000) :
    ∃ T g' a b ls',kh n c fr [.str (R 0),.bytes [p.1.toUInt8,p.2.toUInt8]] g = some (.tup [.ref a,.ref b],g')∧Keep [0] g g'∧g'[0]? = some (.tab ls')∧g'[a]? = some (.lst ((Sim.planL pk T).map .int))∧g'[b]? = some (.lst (vq w W.N))∧T≤1000∧(∀ j,j < W.N→Sim.lastOf W j≤T)∧(∃ j,j < W.N∧(T : Int)≤Sim.lastOf W j) := by
  have hL : 0 < g.length := by
    have := (List.getElem?_eq_some_iff.mp hg).1; exact this
  generalize hLL : g.length = L at *
  let gB := g.set 0 (.tab (253 :: ls))
  let gC := g.set 0 (.tab (255 :: 253 :: ls))
  have hgB : gB.length = L := by simp [gB,hLL]
  have hgC : gC.length = L := by simp [gC,hLL]
  have h0B : gB[0]? = some (.tab (253 :: ls)) := getS hg _
  have h0C : gC[0]? = some (.tab (255 :: 253 :: ls)) := getS hg _
  let D : Option V := some (.str (R 0))
  let Pr : Option V := some (.bytes [p.1.toUInt8,p.2.toUInt8])
  have s1 : asgP L (zr zk1 (zl (ldE 0) nilL)) ⟨[D,Pr,none,none,none,none,none,none,none,none,none,none,none],g++[.ecell]⟩ = some (.next,⟨[D,Pr,none,none,none,none,none,none,none,none,none,none,none],g++[.cell (.ref (L + 1)),.lst (chs (R 0))]⟩) := by
    unfold asgP
    rw [qp (a := .ref (L + 1)) (st' := ⟨[D,Pr,none,none,none,none,none,none,none,none,none,none,none],g++[.ecell,.lst (chs (R 0))]⟩) (by
      rw [vt,jw]
      try dsimp? only [zj]
      dsimp? only [qn,zzz,D,j9,zk1]
      rw [if_pos (by rw [qy]; exact o208 hz)]
      simp [hLL]
      rfl)]
    have h1 : (g++[LObj.ecell,.lst (chs (R 0))])[L]? = some .ecell := by have := getB (l := [LObj.ecell,.lst (chs (R 0))]) hLL 0; simpa using this
    have h2 := setB (l := [LObj.ecell,.lst (chs (R 0))]) hLL 0 (.cell (.ref (L + 1)))
    simp only [Nat.add_zero,ztz] at h2
    simp only [h1,h2]
  have s2 : defS 2 0 253 (.rdf rdD "signs" L) ⟨[D,Pr,none,none,none,none,none,none,none,none,none,none,none],g++[.cell (.ref (L + 1)),.lst (chs (R 0))]⟩ = some (.next,⟨[D,Pr,some (.ref (L + 2)),none,none,none,none,none,none,none,none,none,none],gB++[.cell (.ref (L + 1)),.lst (chs (R 0)),.rdf rdD "signs" L]⟩) := by
    unfold defS
    simp only [qw hg]
    rw [if_neg hls.1,set0 (o281 hLL hL hgB hgC)]
    simp [hLL,gB]
  have s3 : asgS 3 (lamE 0 255) ⟨[D,Pr,some (.ref (L + 2)),none,none,none,none,none,none,none,none,none,none],gB++[.cell (.ref (L + 1)),.lst (chs (R 0)),.rdf rdD "signs" L]⟩ = some (.next,⟨[D,Pr,some (.ref (L + 2)),some (.ref (L + 3)),none,none,none,none,none,none,none,none,none],gC++[.cell (.ref (L + 1)),.lst (chs (R 0)),.rdf rdD "signs" L,.lam]⟩) := by
    rw [qv]
    try dsimp? only [zj]
    unfold lamE
    simp only [qw h0B]
    rw [if_neg (by simp; exact hls.2),set0 (o282 hL hgB hgC)]
    have : gB.set 0 (.tab (255 :: 253 :: ls)) = gC := by simp [gB,gC]
    rw [this]
    simp [hgB,zj,ze7,za7,u9,zaa,zbw,zbx,zbo,zec,zbp,zeb,zh7,zhc,ze0,zb3,uy,zcr,zae,zeg,zbv,zhg,ze8,zh0,ze3,zh2,ze4,u5,yr,zg0,zh3,ze9,zj4,zfa,zci,zab,zac,zgw,zbg,zbh,zes,zb2,ze2,zcd,zgz,zhl,ze5,u6,u7,zei,zbz,ut,uu,zha,zd9,zd8,zbl,zbm,zea,zbn,uo,uq,zgv,zd1,xx,wy]
  have s4 : zih (ldE 2) (ldE 3) ⟨[D,Pr,some (.ref (L + 2)),some (.ref (L + 3)),none,none,none,none,none,none,none,none,none],gC++[.cell (.ref (L + 1)),.lst (chs (R 0)),.rdf rdD "signs" L,.lam]⟩ = some (.next,⟨[D,Pr,some (.ref (L + 2)),some (.ref (L + 3)),none,none,none,none,none,none,none,none,none],gC++[.cell (.ref (L + 1)),.lst (chs (R 0)),.rdf rdD "signs" L,.stf (L + 4),.dic [("read",.ref (L + 2))]]⟩) := by
    unfold zih
    rw [qp (a := .ref (L + 2)) (st' := ⟨[D,Pr,some (.ref (L + 2)),some (.ref (L + 3)),none,none,none,none,none,none,none,none,none],gC++[.cell (.ref (L + 1)),.lst (chs (R 0)),.rdf rdD "signs" L,.lam]⟩) rfl,
      qp (a := .ref (L + 3)) (st' := ⟨[D,Pr,some (.ref (L + 2)),some (.ref (L + 3)),none,none,none,none,none,none,none,none,none],gC++[.cell (.ref (L + 1)),.lst (chs (R 0)),.rdf rdD "signs" L,.lam]⟩) rfl]
    simp only [getB hgC,zzs,zzz]
    rw [List.append_assoc,setB hgC]
    simp [hgC]
  have s5 : asgS 4 (newE c (zf4 n c) (zl (ldE 3) nilL)) ⟨[D,Pr,some (.ref (L + 2)),some (.ref (L + 3)),none,none,none,none,none,none,none,none,none],gC++[.cell (.ref (L + 1)),.lst (chs (R 0)),.rdf rdD "signs" L,.stf (L + 4),.dic [("read",.ref (L + 2))]]⟩ =
      some (.next,⟨[D,Pr,some (.ref (L + 2)),some (.ref (L + 3)),some (.ref (L + 6)),none,none,none,none,none,none,none,none],gC++[.cell (.ref (L + 1)),.lst (chs (R 0)),.rdf rdD "signs" L,.stf (L + 4),.dic [("read",.ref (L + 2))],.dic (ji (lexI L) 1),.ins c (L + 5),.lst []]⟩) := by
    rw [qv]
    try dsimp? only [zj]
    unfold newE
    rw [qp (a := [.ref (L + 3)]) (st' := ⟨[D,Pr,some (.ref (L + 2)),some (.ref (L + 3)),none,none,none,none,none,none,none,none,none],gC++[.cell (.ref (L + 1)),.lst (chs (R 0)),.rdf rdD "signs" L,.stf (L + 4),.dic [("read",.ref (L + 2))]]⟩) rfl]
    have hlen : (gC++[LObj.cell (.ref (L + 1)),LObj.lst (chs (R 0)),LObj.rdf rdD "signs" L,LObj.stf (L + 4),LObj.dic [("read",.ref (L + 2))]]).length = L + 5 := by simp [hgC]
    have hi := init_run n c hgC (.cell (.ref (L + 1))) (.lst (chs (R 0))) (.rdf rdD "signs" L) (.stf (L + 4)) (.dic [("read",.ref (L + 2))])
    simp only [hlen,List.append_assoc,List.cons_append,List.nil_append]
    rw [hi]
    dsimp? only [zts,ztz]
  let gb := gC++[.cell (.ref (L + 1)),.lst (chs (R 0)),.rdf rdD "signs" L,.stf (L + 4),.dic [("read",.ref (L + 2))],.dic (ji (lexI L) 1),.ins c (L + 5),.lst [],.lst [],.lst [],.lst []]
  have hlx : LexAt gb c (lexI L) 1 (R 0) [] := by
    refine ⟨?_,?_,?_,?_,?_,?_,?_,?_,by simp only [lexI]; exact o283⟩
    · exact getB hgC 6
    · exact getB hgC 5
    · exact getB hgC 3
    · exact getB hgC 4
    · exact getB hgC 2
    · exact getB hgC 0
    · exact getB hgC 1
    · exact getB hgC 7
  have hST : ST L gb gb [] [] [] := ⟨getB hgC 8,getB hgC 9,getB hgC 10,.refl _ _⟩
  obtain ⟨T,g',i',h',x10,wd,x12,e,S',hT,hl1,hl2⟩ := zkt J O Sm hn hN hM5 hMx hST hlx D (some (.ref (L + 2))) (some (.ref (L + 3)))
  have kgb : Keep [0] g gb := fun i o hi e => by
    have : gC[i]? = some o := by
      show (g.set 0 _)[i]? = _
      rw [List.getElem?_set_ne (by simp at hi; exact o284 hl2 hi)]; exact e
    exact qw this
  have kg : Keep [0] g g' := fun i o hi e => by
    have hlt := (List.getElem?_eq_some_iff.mp e).1
    exact S'.keep i o (by simp; exact o285 hLL hgB hgC hl2 hlt) (kgb i o hi e)
  have h0 : g'[0]? = some (.tab (255 :: 253 :: ls)) := S'.keep 0 _ (by simp) (qw h0C)
  have hr : uw n c fr L ⟨[D,Pr,none,none,none,none,none,none,none,none,none,none,none],g++[.ecell]⟩ = some (.ret (.tup [.ref (L + 9),.ref (L + 10)]),⟨locL p L D (some (.ref (L + 2))) (some (.ref (L + 3))) i' h' x10 wd x12,g'⟩) := by
    have z0 : (0 : Nat)≤szL := Nat.zero_le _
    have z2 : (2 : Nat)≤szL := by decide
    unfold uw
    rw [zq,s1]
    try dsimp? only [zj]
    rw [zq,s2]
    try dsimp? only [zj]
    rw [zq,s3]
    try dsimp? only [zj]
    rw [zq,s4]
    try dsimp? only [zj]
    rw [zq,s5]
    try dsimp? only [zj]
    have l1 : ∀ (l : List (Option V)) (r : List LObj) (k : Nat),r.length = k→lstE nilL ⟨l,gC++r⟩ = some (.ref (L + k),⟨l,gC++(r++[.lst []])⟩) := fun l r k hk => by
      rw [zen,j9]
      try dsimp? only [zj]
      dsimp? only [List.length_nil,z0,if_true]
      rw [List.length_append,hgC,hk,List.append_assoc]
    rw [zq,qv,l1 _ _ 8 rfl]
    try dsimp? only [zj]
    dsimp? only [zts,ztz]
    rw [zq,qv,l1 _ _ 9 rfl]
    try dsimp? only [zj]
    dsimp? only [zts,ztz]
    rw [zq,qv,l1 _ _ 10 rfl]
    try dsimp? only [zj]
    dsimp? only [zts,ztz]
    rw [zq,qv,qb]
    try dsimp? only [zj]
    dsimp? only [zts,ztz]
    rw [zq,qv,qb]
    try dsimp? only [zj]
    dsimp? only [zts,ztz]
    rw [zq,qv,zka,j9]
    try dsimp? only [zj]
    dsimp? only [List.length_nil,z0,if_true,zts,ztz]
    rw [zq,qv,qb]
    try dsimp? only [zj]
    dsimp? only [zts,ztz]
    rw [zq]
    try dsimp? only [zj]
    have e' : jq n zgc (we n c fr) ⟨[D,Pr,some (.ref (L + 2)),some (.ref (L + 3)),some (.ref (L + 6)),some (.ref (L + 8)),some (.ref (L + 9)),some (.ref (L + 10)),some (.int 0),some (.int 1),some (.tup []),some (.str [63]),none],gb⟩ = _ := e
    unfold zgc we hB restB at e'
    rw [show (gC++([LObj.cell (.ref (L + 1)),.lst (chs (R 0)),.rdf rdD "signs" L,.stf (L + 4),.dic [("read",.ref (L + 2))],.dic (ji (lexI L) 1),.ins c (L + 5),.lst []]++[.lst []]++[.lst []]++[.lst []])) = gb from rfl]
    rw [e']
    simp? only [locL,List.length_cons,List.length_nil,Nat.reduceAdd,z2,if_true]
  refine ⟨T,g',L + 9,L + 10,_,?_,kg,h0,S'.plan,S'.heard,hT,hl1,hl2⟩
  exact runP_ret (st := ⟨_,g'⟩) _ rfl rfl (by rw [hLL]; exact hr)
end Mine
end
section
namespace Mine
open PySem PyProof.Rows
noncomputable abbrev xat (xs : List Int) (k : Nat) : Int := xs.getD k 0
noncomputable def nlc (xs : List Int) (k : Nat) : Int := (xat xs k / 2 + k) % 3
noncomputable def vn (xs : List Int) : Nat→Int
  | 0 => 1
  | k + 1 => vn xs k + nlc xs k
noncomputable def wkAt (xs : List Int) (k : Nat) : T3 := (vn xs k,xat xs k % 16,1 + xat xs k / 16 % 3)
noncomputable def wksL (xs : List Int) (k : Nat) : List T3 := (List.range k).map (wkAt xs)
noncomputable def a0 (xs : List Int) (k : Nat) : Nat := (251 + xat xs k / 5 % 2 * 4).toNat
noncomputable def b0 (xs : List Int) (k : Nat) : Nat := (240 + xat xs k % 16).toNat
noncomputable def c0 (xs : List Int) (k : Nat) : Nat := (1 + xat xs k / 16 % 3).toNat
noncomputable def wdAt (xs : List Int) (p : Nat × Nat) (k : Nat) : List Nat := wrd p.1 p.2 (a0 xs k) (b0 xs k) (c0 xs k)
noncomputable def spAt (xs : List Int) (p : Nat × Nat) (k : Nat) : List Nat := spell (wdAt xs p k) (xat xs k / 7)
noncomputable def nlL (xs : List Int) (k : Nat) : List Nat := List.replicate (nlc xs k).toNat 10
noncomputable def txt (xs : List Int) (p : Nat × Nat) (k : Nat) : List Nat := (List.range k).flatMap fun j => spAt xs p j++nlL xs j
theorem xm (xs : List Int) (k : Nat) : 0≤nlc xs k∧nlc xs k≤2 := by
  unfold nlc
  have h0 := Int.emod_nonneg (xat xs k / 2 + k) (show (3 : Int)≠0 by decide)
  have h3 := Int.emod_lt_of_pos (xat xs k / 2 + k) (show (0 : Int) < 3 by decide)
  exact o286 h0
theorem abc (xs : List Int) (k : Nat) : a0 xs k < 256∧b0 xs k < 256∧c0 xs k < 256∧((a0 xs k : Nat) : Int) = 251 + xat xs k / 5 % 2 * 4∧((b0 xs k : Nat) : Int) = 240 + xat xs k % 16∧((c0 xs k : Nat) : Int) = 1 + xat xs k / 16 % 3∧1≤1 + xat xs k / 16 % 3∧1 + xat xs k / 16 % 3≤3 := by
  unfold a0 b0 c0
  generalize xat xs k = x
  have h1 := Int.emod_nonneg (x / 5) (show (2 : Int)≠0 by decide)
  have h2 := Int.emod_lt_of_pos (x / 5) (show (0 : Int) < 2 by decide)
  have h3 := Int.emod_nonneg x (show (16 : Int)≠0 by decide)
  have h4 := Int.emod_lt_of_pos x (show (0 : Int) < 16 by decide)
  have h5 := Int.emod_nonneg (x / 16) (show (3 : Int)≠0 by decide)
  have h6 := Int.emod_lt_of_pos (x / 16) (show (0 : Int) < 3 by decide)
  exact o287 h1 h3 h5
theorem yu (xs : List Int) (k : Nat) : (wksL xs k).length = k := by unfold wksL; simp
theorem zdz (xs : List Int) {k j : Nat} (h : j < k) : at3 (wksL xs k) j = wkAt xs j := by
  unfold at3 wksL
  rw [List.getD_eq_getElem?_getD,List.getElem?_map,List.getElem?_range h]; rfl
theorem zi5 (xs : List Int) {i j : Nat} (h : i≤j) : vn xs i≤vn xs j := by
  induction j with
  | zero => have : i = 0 := by exact o288 h
            subst this; exact Int.le_refl _
  | succ n ih =>
    by_cases q : i = n + 1
    · subst q; exact Int.le_refl _
    · have := ih (o289 h q)
      have := xm xs n
      show _≤vn xs n + nlc xs n
      exact o290 (by assumption) this
theorem zbs (xs : List Int) (k : Nat) : 1≤vn xs k∧vn xs k≤1 + 2 * k := by
  induction k with
  | zero => exact ⟨Int.le_refl _,by show (1 : Int)≤_; omega⟩
  | succ n ih =>
    have := xm xs n
    show 1≤vn xs n + nlc xs n∧vn xs n + nlc xs n≤_
    exact o291 ih this
theorem wk_ok (xs : List Int) (N : Nat) : WkOk (wkOf (wksL xs N)) := by
  have e : ∀ j,j < (wksL xs N).length→at3 (wksL xs N) j = wkAt xs j := fun j hj => zdz xs (by rw [yu] at hj; exact hj)
  refine ⟨fun j hj => ?_,fun i j hij hj => ?_,fun j hj => ?_⟩
  · show 1≤(at3 _ j).1
    rw [e j hj]; exact (zbs xs j).1
  · have hj' : j < (wksL xs N).length := hj
    show (at3 _ i).1≤(at3 _ j).1
    rw [e j hj,e i (o292 hij hj')]; exact zi5 xs hij
  · show 1≤(at3 _ j).2.2
    rw [e j hj]; have := abc xs j; exact this.2.2.2.2.2.2.1
noncomputable def zav (xs : List Int) (p : Nat × Nat) : Nat→Nat→List Nat
  | 0,_ => []
  | m + 1,k => spAt xs p k++nlL xs k++zav xs p m (k + 1)
theorem zbt (xs : List Int) (p : Nat × Nat) : ∀ m k,txt xs p (k + m) = txt xs p k++zav xs p m k
  | 0,k => by simp [zav]
  | m + 1,k => by
    have ih := zbt xs p m (k + 1)
    rw [show k + (m + 1) = k + 1 + m by exact o293,ih]
    unfold txt
    rw [List.range_succ,List.flatMap_append]
    simp [zav]
noncomputable def Rf (xs : List Int) (p : Nat × Nat) (N k : Nat) : List Nat := if k = 0 then txt xs p N else nlL xs (k - 1)++zav xs p (N - k) k
theorem Rf_split (xs : List Int) (p : Nat × Nat) {N k : Nat} (hk : k < N) : Rf xs p N k = (if k = 0 then [] else nlL xs (k - 1))++(spAt xs p k++Rf xs p N (k + 1)) := by
  obtain ⟨m,hm⟩ : ∃ m,N - k = m + 1 := ⟨N - k - 1,by exact o215 hk⟩
  have h1 : Rf xs p N (k + 1) = nlL xs k++zav xs p m (k + 1) := by
    unfold Rf; rw [if_neg (o230),show N - (k + 1) = m by exact o294 hk hm]; rfl
  unfold Rf at h1 ⊢
  by_cases q : k = 0
  · subst q
    rw [if_pos rfl,if_pos rfl,h1]
    have := zbt xs p N 0
    rw [Nat.zero_add,show N = m + 1 by exact o295 hk hm] at this
    rw [show N = m + 1 by exact o295 hk hm,this]
    simp [txt,zav]
  · rw [if_neg q,if_neg q,hm,h1]
    simp [zav]
theorem nls_nl (xs : List Int) (k : Nat) : nls (nlL xs k) = nlc xs k := by
  unfold nls nlL
  have := xm xs k
  rw [List.map_replicate]
  have h : ∀ m : Nat,(List.replicate m (nlI 10)).sum = (m : Int) := by
    intro m
    induction m with
    | zero => rfl
    | succ m ih => rw [List.replicate_succ,List.sum_cons,ih]; unfold nlI; simp; exact o296
  rw [h]; exact o297 this
theorem nl_ws (xs : List Int) (k : Nat) : ∀ s ∈ nlL xs k,s ∈ [10,9,13,32] := fun s hs => by
  have := (List.mem_replicate.mp hs).2
  subst this; simp
theorem zdn (xs : List Int) (k : Nat) : (nlL xs k).length≤2 := by
  unfold nlL; rw [List.length_replicate]; have := xm xs k; exact o298 this
theorem esc_len (w : List Nat) : (escq w).length≤2 * w.length∧(escb w).length≤2 * w.length := by
  induction w with
  | nil => simp [escq,escb]
  | cons s w ih =>
    rw [zf9,zca]
    constructor
    · rw [List.length_append]; split <;> simp only [List.length_cons,List.length_nil] <;> omega
    · rw [List.length_append]; split <;> simp only [List.length_cons,List.length_nil] <;> omega
theorem zjy (xs : List Int) (p : Nat × Nat) (k : Nat) : (wdAt xs p k).length = 4 := by simp [wdAt,wrd]
theorem zkg (xs : List Int) (p : Nat × Nat) (k : Nat) : (spAt xs p k).length≤20 := by
  have := esc_len (wdAt xs p k)
  have h4 := zjy xs p k
  unfold spAt spell
  split
  · simp only [List.length_cons,List.length_append,List.length_nil]; exact o303 this h4
  · simp only [List.length_cons,List.length_append,List.length_nil]; exact o304 this h4
theorem zbu (xs : List Int) (p : Nat × Nat) : ∀ m k,(zav xs p m k).length≤22 * m
  | 0,_ => by simp [zav]
  | m + 1,k => by
    have := zbu xs p m (k + 1)
    have := zkg xs p k
    have := zdn xs k
    simp only [zav,List.length_append]; exact o305 (by assumption) (by assumption) this
theorem Rf_len (xs : List Int) (p : Nat × Nat) (N k : Nat) : (Rf xs p N k).length≤22 * N + 2 := by
  unfold Rf
  split
  · have := zbt xs p N 0
    rw [Nat.zero_add] at this
    rw [this]
    have := zbu xs p N 0
    simp [txt]; exact o306 this
  · have := zbu xs p (N - k) k
    have := zdn xs (k - 1)
    rw [List.length_append]; exact o307 (by assumption) this
theorem zia (xs : List Int) {p : Nat × Nat} (hp : p ∈ pairs) (k : Nat) : ∀ s ∈ wdAt xs p k,s ∉ [10,9,13]∧s < 256 := by
  intro s hs
  have sm := zig p hp
  have h := abc xs k
  simp only [wdAt,wrd,List.mem_cons,List.not_mem_nil,or_false] at hs
  rcases hs with rfl | rfl | rfl | rfl
  · exact (sm _ (by exact o308 h)).symm
  · exact (sm _ (by exact o309 h)).symm
  · exact (sm _ (by exact o310 h)).symm
  · exact (sm _ (by exact o311 h)).symm
theorem job_of (n : Nat) (hn : 1000 < n) (c fr : Addr) (L : Nat) (xs : List Int) {p : Nat × Nat} (hp : p ∈ pairs) {N : Nat} (h0 : 0 < N) (hN : N≤20) : Job n c fr L (wkOf (wksL xs N)) (wdAt xs p) (Rf xs p N) p := by
  have hWN : (wkOf (wksL xs N)).N = N := yu xs N
  have e : ∀ j,j < N→at3 (wksL xs N) j = wkAt xs j := fun j hj => zdz xs hj
  refine ⟨by rw [hWN]; exact h0,hp,fun k hk => ?_,fun k hk g hx => ?_,fun g ln cs hcs hx => ?_⟩
  · rw [hWN] at hk
    have h := abc xs k
    refine ⟨a0 xs k,b0 xs k,c0 xs k,h.1,h.2.1,h.2.2.1,rfl,?_,?_⟩
    · show (at3 _ k).2.1 = _
      rw [e k hk,h.2.2.2.2.1]; show xat xs k % 16 = _; exact o312
    · show (at3 _ k).2.2 = _
      rw [e k hk,h.2.2.2.2.2.1]; rfl
  · rw [hWN] at hk
    have hrow : (wkOf (wksL xs N)).row k = vn xs k := by show (at3 _ k).1 = _; rw [e k hk]; rfl
    have hpre : (if k = 0 then (1 : Int) else (wkOf (wksL xs N)).row (k - 1)) + nls (if k = 0 then [] else nlL xs (k - 1)) = vn xs k := by
      by_cases q : k = 0
      · subst q; rfl
      · rw [if_neg q,if_neg q,nls_nl]
        have : (wkOf (wksL xs N)).row (k - 1) = vn xs (k - 1) := by show (at3 _ (k - 1)).1 = _; rw [e (k - 1) (o313 hWN hk)]; rfl
        rw [this]
        obtain ⟨m,rfl⟩ : ∃ m,k = m + 1 := ⟨k - 1,by exact o314 q⟩
        rfl
    have hws : ∀ s ∈ (if k = 0 then [] else nlL xs (k - 1)),s ∈ [10,9,13,32] := by
      split
      · simp
      · exact nl_ws xs (k - 1)
    have hwl : (if k = 0 then ([] : List Nat) else nlL xs (k - 1)).length≤2 := by
      split
      · simp
      · exact zdn xs (k - 1)
    have hlen := Rf_len xs p N k
    have hwd := zjy xs p k
    have hch := zia xs hp k
    rw [hrow,← hpre]
    rw [Rf_split xs p hk] at hx hlen
    unfold spAt spell at hx hlen
    by_cases q : xat xs k / 7 % 2 = 0
    · rw [if_pos q] at hx hlen
      have hx' : LexAt g c (lexI L) (if k = 0 then (1 : Int) else (wkOf (wksL xs N)).row (k - 1)) ((if k = 0 then [] else nlL xs (k - 1))++34 :: (escq (wdAt xs p k)++34 :: Rf xs p N (k + 1))) [] := by simpa using hx
      exact zjc n _ _ _ hx' (by simp at hlen ⊢; exact o315 h0 hN hWN hlen) (o316 hn hwl hwd) hws (o317 hwd) (fun s hs z => (hch s hs).1 (by simp [z]))
    · rw [if_neg q] at hx hlen
      have ht := tOf_ws (xat xs k / 7)
      have hx' : LexAt g c (lexI L) (if k = 0 then (1 : Int) else (wkOf (wksL xs N)).row (k - 1)) ((if k = 0 then [] else nlL xs (k - 1))++(escb (wdAt xs p k)++tOf (xat xs k / 7) :: Rf xs p N (k + 1))) [] := by simpa using hx
      exact get_bare n _ _ _ ht.1 ht.2 hx' (by simp at hlen ⊢; exact o318 h0 hN hWN hlen) (o316 hn hwl hwd) hws (o317 hwd) (by intro z; rw [z] at hwd; simp at hwd) (fun s hs => (hch s hs).1)
  · rw [hWN] at hcs
    have hRN : Rf xs p N N = nlL xs (N - 1) := by unfold Rf; rw [if_neg (o319 h0 hN hWN),Nat.sub_self]; simp [zav]
    rw [hRN] at hcs
    rcases hcs with rfl | rfl
    · have := zdn xs (N - 1)
      obtain ⟨g',e1,h1,k1⟩ := zld n (fr := fr) _ hx (o320 this) (o321 hn this) (nl_ws xs (N - 1))
      exact ⟨g',_,e1,h1,k1⟩
    · obtain ⟨g',e1,h1,k1⟩ := zld n (fr := fr) _ hx (by simp) (by simp; exact o322 hn) (by simp)
      exact ⟨g',_,e1,h1,k1⟩
theorem zja (xs : List Int) (N : Nat) (hN : N≤20) : ∀ j,j < (wkOf (wksL xs N)).N→Sim.lastOf (wkOf (wksL xs N)) j≤(900 : Nat) := by
  intro j hj
  have O := wk_ok xs N
  have hWN : (wkOf (wksL xs N)).N = N := yu xs N
  obtain ⟨i,hi,_,h⟩ := Sim.horn_le O hj
  unfold Sim.room at h
  have hsum : ∀ l : List Nat,(∀ j ∈ l,j < N)→(l.map fun j' => if Sim.inside (wkOf (wksL xs N)) i j j' then (wkOf (wksL xs N)).hrs j' else 0).sum≤3 * l.length := by
    intro l
    induction l with
    | nil => intro _; simp
    | cons a l ih =>
      intro hl
      have ih := ih fun j hj => hl j (List.mem_cons_of_mem _ hj)
      have ha := hl a (List.mem_cons_self ..)
      have hh : (wkOf (wksL xs N)).hrs a≤3 := by
        show (at3 _ a).2.2≤3
        rw [zdz xs ha]; exact (abc xs a).2.2.2.2.2.2.2
      simp only [List.map_cons,List.sum_cons,List.length_cons]
      split <;> omega
  have h1 := hsum (List.range (wkOf (wksL xs N)).N) (fun j hj => by rw [hWN] at hj; exact List.mem_range.mp hj)
  rw [List.length_range,hWN] at h1
  rw [hWN] at h hi hj
  have hrow : (wkOf (wksL xs N)).row i≤1 + 2 * N := by
    show (at3 _ i).1≤_
    rw [zdz xs hi]; have := (zbs xs i).2; show vn xs i≤_; exact o325 hWN hi this
  omega
end Mine
end
section
namespace Mine
open PySem PyProof.Rows
variable {xs : List Int} {p : Nat × Nat} {n : Nat} {g g' : List LObj} {k : Nat}
structure BS (nb wk wr : Nat) (xs : List Int) (p : Nat × Nat) (g : List LObj) (k : Nat) : Prop where
  tab : g[0]? = some (.tab [])
  nbl : g[nb]? = some (.lst (xs.map .int))
  wkl : g[wk]? = some (.lst ((wksL xs k).map it))
  wrl : g[wr]? = some (.lst ((List.range k).map fun j => .str (wdAt xs p j)))
  ne : nb≠wk∧nb≠wr∧wk≠wr
variable {nb wk wr : Nat}
theorem BS.app (h : BS nb wk wr xs p g k) (l : List LObj) : BS nb wk wr xs p (g++l) k := ⟨qw h.tab,qw h.nbl,qw h.wkl,qw h.wrl,h.ne⟩
theorem x_ops (x : Int) (k : Nat) : modV (.int x) (.int 16) = some (.int (x % 16))∧divV (.int x) (.int 16) = some (.int (x / 16))∧modV (.int (x / 16)) (.int 3) = some (.int (x / 16 % 3))∧divV (.int x) (.int 5) = some (.int (x / 5))∧modV (.int (x / 5)) (.int 2) = some (.int (x / 5 % 2))∧mulV (.int (x / 5 % 2)) (.int 4) = some (.int (x / 5 % 2 * 4)) ∧
    divV (.int x) (.int 2) = some (.int (x / 2))∧modV (.int (x / 2 + k)) (.int 3) = some (.int ((x / 2 + k) % 3))∧divV (.int x) (.int 7) = some (.int (x / 7)) := by
  refine ⟨?_,?_,?_,?_,?_,?_,?_,?_,?_⟩ <;> first | (unfold modV; simp only; rw [if_pos (by decide)]) | (unfold divV; simp only; rw [if_pos (by decide)]) | (unfold mulV; simp only; rw [if_pos (by decide)])
theorem xat_item {g : List LObj} (h : g[nb]? = some (.lst (xs.map .int))) (hz : xs.length≤100) (hk : k < xs.length) : jg g (.ref nb) (.int (k : Int)) = some (.int (xat xs k)) := by
  unfold jg
  simp only [h,List.length_map]
  rw [if_pos (by rw [qy]; exact o236 hz),if_pos (Int.natCast_nonneg k),Int.toNat_natCast,List.getElem?_map,List.getElem?_eq_getElem hk]
  unfold xat
  rw [List.getD_eq_getElem?_getD,List.getElem?_eq_getElem hk]; rfl
theorem zjk (xs : List Int) (k : Nat) (g : List LObj) : kz [.ref g.length] (g++[.lst [.int (251 + xat xs k / 5 % 2 * 4),.int (240 + xat xs k % 16),.int (1 + xat xs k / 16 % 3)]]) = some (.bytes [(a0 xs k).toUInt8,(b0 xs k).toUInt8,(c0 xs k).toUInt8],g++[.lst [.int (251 + xat xs k / 5 % 2 * 4),.int (240 + xat xs k % 16),.int (1 + xat xs k / 16 % 3)]]) := by
  have h := abc xs k
  have hb : ∀ x : Int,0≤x→x < 256→(decide (0≤x) && decide (x < 256)) = true := fun x h1 h2 => by simp [h1,h2]
  simp only [kz,jf,jm,zzz,List.length_cons,List.length_nil]
  rw [if_pos (by decide)]
  simp only [v8,Option.map_some,List.all_cons,List.all_nil,hb _ (show 0≤251 + xat xs k / 5 % 2 * 4 by exact o326 h) (o327 h),hb _ (show 0≤240 + xat xs k % 16 by exact o328 h) (o329 h),hb _ (show 0≤1 + xat xs k / 16 % 3 by exact o330 h) (o331 h),Bool.and_self,if_true,List.map_cons,List.map_nil]
  rfl
theorem zib (xs : List Int) (p : Nat × Nat) (k : Nat) : txt xs p (k + 1) = txt xs p k++spAt xs p k++nlL xs k := by
  unfold txt; rw [List.range_succ,List.flatMap_append]; simp
theorem zj8 (xs : List Int) (p : Nat × Nat) : ∀ k,(txt xs p k).length≤22 * k
  | 0 => by simp [txt]
  | k + 1 => by
    have := zj8 xs p k
    have := zkg xs p k
    have := zdn xs k
    rw [zib]; simp only [List.length_append]; exact o332 (by assumption) (by assumption) this
noncomputable abbrev zgf (n : Nat) : LM Fl := (seqS (asgS 12 (zu (ldE 1) (ldE 7))) (seqS (ja (q5 qf zt (ldE 3) (zl (tupE (zl (ldE 5) (zl (binE modV (ldE 12) (zd (.int 16))) (zl (binE addV (zd (.int 1)) (binE modV (binE divV (ldE 12) (zd (.int 16))) (zd (.int 3)))) nilL)))) nilL))) (seqS (asgS 13 (zr kz (zl (lstE (zl (binE addV (zd (.int 251)) (binE mulV (binE modV (binE divV (ldE 12) (zd (.int 5))) (zd (.int 2))) (zd (.int 4)))) (zl (binE addV (zd (.int 240)) (binE modV (ldE 12) (zd (.int 16)))) (zl (binE addV (zd (.int 1)) (binE modV (binE divV (ldE 12) (zd (.int 16))) (zd (.int 3)))) nilL)))) nilL))) (seqS (asgS 5 (binE addV (ldE 5) (binE modV (binE addV (binE divV (ldE 12) (zd (.int 2))) (ldE 7)) (zd (.int 3))))) (seqS (ja (q5 qf zt (ldE 4) (zl (zr (ka n) (zl (ldE 13) (zl (ldE 2) nilL))) nilL))) (seqS (iteL (cmpT neV (zr (kl n) (zl (ldE 13) (zl (ldE 2) nilL))) (zr (q7 n) (zl (zu (ldE 4) (unE negV (zd (.int 1)))) nilL))) (seqS (retS (zd (.bool false))) zm) zm) (seqS (asgS 6 (binE addV (binE addV (ldE 6) (zr (jj n) (zl (zu (ldE 4) (unE negV (zd (.int 1)))) (zl (binE divV (ldE 12) (zd (.int 7))) nilL)))) (binE mulV (zd (.str [10])) (binE modV (binE addV (binE divV (ldE 12) (zd (.int 2))) (ldE 7)) (zd (.int 3)))))) zm)))))))
noncomputable abbrev locB (sa : Addr) (nb wk wr : Nat) (xs : List Int) (p : Nat × Nat) (k : Nat) (x7 x12 x13 : Option V) : List (Option V) :=
  [some (.ext sa),some (.ref nb),some (.bytes [p.1.toUInt8,p.2.toUInt8]),some (.ref wk),some (.ref wr),some (.int (vn xs k)),some (.str (txt xs p k)),x7,none,none,none,none,x12,x13,none,none,none]
theorem zjn (hn : 1000 < n) (sa : Addr) (hp : p ∈ pairs) (hz : xs.length≤20) (hk : k < xs.length) (h : BS nb wk wr xs p g k) (x7 x12 x13 : Option V) :
    ∃ g' x12' x13',zw (stS 7 (.int (k : Int))) (fun _ => zgf n) ⟨locB sa nb wk wr xs p k x7 x12 x13,g⟩ = some (.next,⟨locB sa nb wk wr xs p (k + 1) (some (.int (k : Int))) x12' x13',g'⟩)∧BS nb wk wr xs p g' (k + 1) := by
  obtain ⟨o1,o2,o3,o4,o5,o6,o7,o8,o9⟩ := x_ops (xat xs k) k
  have hx := xat_item h.nbl (o333 hz) hk
  have l1 : qf g (.ref wk) = true := by simp only [qf,h.wkl]
  have hwk1 : (wksL xs k).map it++[it (wkAt xs k)] = (wksL xs (k + 1)).map it := by unfold wksL; rw [List.range_succ]; simp
  have z3 : (3 : Nat)≤szL := by decide
  have a1 : zt [.ref wk,.tup [.int (vn xs k),.int (xat xs k % 16),.int (1 + xat xs k / 16 % 3)]] g = some (.none,g.set wk (.lst ((wksL xs (k + 1)).map it))) := by
    simp only [zt,h.wkl]
    rw [if_pos (by rw [List.length_map,yu,qy]; exact o334 hz hk),← hwk1]; rfl
  have hne := h.ne
  let g1 := g.set wk (.lst ((wksL xs (k + 1)).map it))
  have w0 : wk≠0 := fun e => by have := h.wkl; rw [e,h.tab] at this; cases this
  have r0 : wr≠0 := fun e => by have := h.wrl; rw [e,h.tab] at this; cases this
  have t1 : g1[0]? = some (.tab []) := by show (g.set _ _)[0]? = _; rw [List.getElem?_set_ne (o335 w0 r0)]; exact h.tab
  have n1 : g1[nb]? = some (.lst (xs.map .int)) := by show (g.set _ _)[nb]? = _; rw [List.getElem?_set_ne (o336 hne w0 r0)]; exact h.nbl
  have w1 : g1[wk]? = some (.lst ((wksL xs (k + 1)).map it)) := getS h.wkl _
  have r1 : g1[wr]? = some (.lst ((List.range k).map fun j => .str (wdAt xs p j))) := by show (g.set _ _)[wr]? = _; rw [List.getElem?_set_ne (o337 hne w0 r0)]; exact h.wrl
  have cb := zjk xs k g1
  let g2 := g1++[.lst [.int (251 + xat xs k / 5 % 2 * 4),.int (240 + xat xs k % 16),.int (1 + xat xs k / 16 % 3)]]
  have hab := abc xs k
  have hps := zhd p hp
  obtain ⟨j1,e1⟩ := zgn n (o240 hn) p.1 p.2 (a0 xs k) (b0 xs k) (c0 xs k) hps.1 hps.2 hab.1 hab.2.1 hab.2.2.1 g2
  have t2 : (g2++j1)[0]? = some (.tab []) := qw (qw t1)
  have n2 : (g2++j1)[nb]? = some (.lst (xs.map .int)) := qw (qw n1)
  have w2 : (g2++j1)[wk]? = some (.lst ((wksL xs (k + 1)).map it)) := qw (qw w1)
  have r2 : (g2++j1)[wr]? = some (.lst ((List.range k).map fun j => .str (wdAt xs p j))) := qw (qw r1)
  have l2 : qf g2 (.ref wr) = true := by
    have : g2[wr]? = some (.lst ((List.range k).map fun j => .str (wdAt xs p j))) := qw r1
    simp only [qf,this]
  have hwr1 : ((List.range k).map fun j => V.str (wdAt xs p j))++[V.str (wdAt xs p k)] = (List.range (k + 1)).map fun j => V.str (wdAt xs p j) := by rw [List.range_succ]; simp
  have a2 : zt [.ref wr,.str (wdAt xs p k)] (g2++j1) = some (.none,(g2++j1).set wr (.lst ((List.range (k + 1)).map fun j => .str (wdAt xs p j)))) := by
    simp only [zt,r2]
    rw [if_pos (by simp; rw [qy]; exact o334 hz hk),hwr1]
  generalize hg3 : (g2++j1).set wr (.lst ((List.range (k + 1)).map fun j => V.str (wdAt xs p j))) = g3 at *
  have t3 : g3[0]? = some (.tab []) := by rw [← hg3,List.getElem?_set_ne (o338 r0)]; exact t2
  have n3 : g3[nb]? = some (.lst (xs.map .int)) := by rw [← hg3,List.getElem?_set_ne (o339 hne w0 r0)]; exact n2
  have w3 : g3[wk]? = some (.lst ((wksL xs (k + 1)).map it)) := by rw [← hg3,List.getElem?_set_ne (o340 hne w0 r0)]; exact w2
  have r3 : g3[wr]? = some (.lst ((List.range (k + 1)).map fun j => V.str (wdAt xs p j))) := by rw [← hg3]; exact getS r2 _
  have b3 : BS nb wk wr xs p g3 (k + 1) := ⟨t3,n3,w3,r3,h.ne⟩
  obtain ⟨j2,e2⟩ := zjh n (o240 hn) p hp (a0 xs k) (b0 xs k) (c0 xs k) hab.1 hab.2.1 hab.2.2.1 g3
  have b4 := b3.app j2
  have last : ∀ g,BS nb wk wr xs p g (k + 1)→jg g (.ref wr) (.int (-1)) = some (.str (wdAt xs p k)) := fun g b => by
    unfold jg
    simp only [b.wrl]
    rw [if_pos (by simp; rw [qy]; exact o341 hz hk),if_neg (by decide),if_pos trivial]
    simp
  have hwl := zjy xs p k
  obtain ⟨j3,e3⟩ := zdm n (wdAt xs p k) (o238 hn hwl) (o239 hwl) (fun s hs => (zia xs hp k s hs).2) (g3++j2)
  have b5 := b4.app j3
  obtain ⟨j4,e4⟩ := zg2 n (wdAt xs p k) (xat xs k / 7) (o238 hn hwl) (o342 hwl) (g3++j2++j3)
  have b6 := b5.app j4
  have neq : ∀ g : List LObj,neV g (.bytes ((wrd p.1 p.2 (a0 xs k) (b0 xs k) (c0 xs k)).map (·.toUInt8))) (.bytes ((wdAt xs p k).map (·.toUInt8))) = some false := fun g => by
    unfold neV eqV wdAt; simp
  have ng : negV (.int 1) = some (.int (-1)) := rfl
  have htl := zj8 xs p k
  have hsl := zkg xs p k
  have hnl := zdn xs k
  have ad1 : addV (.str (txt xs p k)) (.str (spell (wdAt xs p k) (xat xs k / 7))) = some (.str (txt xs p k++spAt xs p k)) := addS (by show (txt xs p k).length + (spAt xs p k).length≤_; exact o343 hz hk htl hsl)
  have mu : mulV (.str [10]) (.int ((xat xs k / 2 + k) % 3)) = some (.str (nlL xs k)) := by
    have := xm xs k
    unfold nlc at this
    unfold mulV
    simp only
    rw [if_pos ⟨this.1,by exact o344 this⟩]; rfl
  have ad2 : addV (.str (txt xs p k++spAt xs p k)) (.str (nlL xs k)) = some (.str (txt xs p (k + 1))) := by
    rw [zib]; exact addS (by rw [List.length_append]; exact o345 hz hk htl hsl hnl)
  have hrow : vn xs k + (xat xs k / 2 + k) % 3 = vn xs (k + 1) := rfl
  refine ⟨g3++j2++j3++j4,some (.int (xat xs k)),some (.bytes [(a0 xs k).toUInt8,(b0 xs k).toUInt8,(c0 xs k).toUInt8]),?_,b6⟩
  have ai : ∀ a b : Int,addV (.int a) (.int b) = some (.int (a + b)) := fun _ _ => rfl
  rw [vp,yy]
  try dsimp? only [zj]
  dsimp? only [locB,zts,ztz]
  unfold zgf
  rw [zq,qv,zet]
  try dsimp? only [zj]
  dsimp? only [qn,zzs,zzz,hx,zts,ztz]
  rw [zq,wv,wm]
  try dsimp? only [zj]
  simp? only [l1,if_true,o1,o2,o3,ai,List.length_cons,List.length_nil,Nat.reduceAdd,z3]
  rw [a1]
  simp? only [o1,o2,o3,o4,o5,o6,ai,List.length_cons,List.length_nil,Nat.reduceAdd,z3,if_true]
  rw [cb]
  simp? only [o7,ai,o8]
  rw [l2]
  simp? only [if_true]
  rw [e1]
  simp? only [zj]
  rw [show zt [.ref wr,.str (wrd p.1 p.2 (a0 xs k) (b0 xs k) (c0 xs k))] (g2++j1) = _ from a2]
  simp? only [e2,ng,last _ b4,e3,neq,last _ b5]
  rw [o9]
  simp? only [e4]
  rw [ad1]
  simp? only [o7,ai,o8,mu,ad2,hrow]
end Mine
end
section
namespace Mine
open PySem PyProof.Rows
variable {n : Nat} {g : List LObj} {W : Wk} {rem : Nat→Nat→Int} {pk : Nat→Option Nat}
theorem y0 (n N : Nat) (hn : N < n) (hN : N≤100) (G : List LObj) (loc : List (Option V)) (h8 : loc[8]? = some (some (.rng 0 (N : Int)))) (cap : List Nat) {test : LM Bool} {elt : LM V} (res : Nat→Option V)
    (hs : ∀ k,k < N→∀ x junk,∃ more,match res k with
      | some y => test ⟨some (.int (k : Int)) :: cap.map (fun i => (loc[i]?).join),G++x :: junk⟩ = some (true,⟨some (.int (k : Int)) :: cap.map (fun i => (loc[i]?).join),G++x :: junk⟩)∧elt ⟨some (.int (k : Int)) :: cap.map (fun i => (loc[i]?).join),G++x :: junk⟩ = some (y,⟨some (.int (k : Int)) :: cap.map (fun i => (loc[i]?).join),G++x :: (junk++more)⟩)
      | none => test ⟨some (.int (k : Int)) :: cap.map (fun i => (loc[i]?).join),G++x :: junk⟩ = some (false,⟨some (.int (k : Int)) :: cap.map (fun i => (loc[i]?).join),G++x :: (junk++more)⟩)) :
    ∃ junk,kb n (ldE 8) 1 cap (stS 0) test elt ⟨loc,G⟩ = some (.ref G.length,⟨loc,G++.lst ((List.range N).filterMap res) :: junk⟩) := by
  let r' : V→Option V := fun v => match v with
    | .int k => res k.toNat
    | _ => none
  obtain ⟨junk,e⟩ := ue (g := G) (src := .vals ((List.range N).map fun i : Nat => V.int (i : Int))) (vs := (List.range N).map fun i : Nat => V.int (i : Int)) (k := 1) (cap := cap) (asg := stS 0) (test := test) (elt := elt) (f := ldE 8) (v := .rng 0 (N : Int)) (loc := loc) (n := n) r' (by rw [qn,h8]) (zhb (by exact o346 hN)) za3 (by simp; rw [qy]; exact o236 hN) (by simpa using hn) (by
    intro v hv o x junk ho
    obtain ⟨k,hk,rfl⟩ := List.mem_map.mp hv
    obtain ⟨o0,rfl⟩ : ∃ o0,o = [o0] := by rcases o with _ | ⟨a,_ | ⟨b,r⟩⟩ <;> simp at ho; exact ⟨a,rfl⟩
    obtain ⟨more,h⟩ := hs k (List.mem_range.mp hk) x junk
    refine ⟨[some (.int (k : Int))],more,rfl,rfl,?_⟩
    simp only [r',Int.toNat_natCast]
    exact h)
  have hres : ((List.range N).map fun i : Nat => V.int (i : Int)).filterMap r' = (List.range N).filterMap res := by
    rw [List.filterMap_map]
    refine jn fun k _ => ?_
    simp only [Function.comp,r',Int.toNat_natCast]
  rw [hres] at e
  exact ⟨junk,e⟩
theorem zgb (l : List Int) : eqIs (l.map V.int) (l.map V.int) = some true := by
  induction l with
  | nil => rfl
  | cons a l ih => simp only [List.map_cons,eqIs,eqI,ih]; simp
theorem zlg (l : List (List Nat)) : eqIs (l.map V.str) (l.map V.str) = some true := by
  induction l with
  | nil => rfl
  | cons a l ih => simp only [List.map_cons,eqIs,eqI,ih]; simp
theorem eqL {i j : Nat} {xs : List V} (h1 : g[i]? = some (.lst xs)) (h2 : g[j]? = some (.lst xs)) (h : eqIs xs xs = some true) : eqV g (.ref i) (.ref j) = some true := by
  unfold eqV zc1; simp only [h1,h2,if_true,h]
theorem neLf {i j : Nat} {xs : List V} (h1 : g[i]? = some (.lst xs)) (h2 : g[j]? = some (.lst xs)) (h : eqIs xs xs = some true) : neV g (.ref i) (.ref j) = some false := by
  unfold neV; rw [eqL h1 h2 h]; rfl
noncomputable def pr (W : Wk) (k : Nat) : V := .tup [.int (W.due k),.int (k : Int)]
theorem ltV_pr (g : List LObj) (W : Wk) (x b : Nat) : ltV g (pr W x) (pr W b) = some (decide (¬ kle W b x)) := by
  simp only [pr,ltV,v8,Option.map_some,lexB]
  congr 1
  unfold kle
  split
  · split
    · simp only [List.length_nil,Nat.lt_irrefl,decide_false]; symm; rw [decide_eq_false_iff_not]; exact o347 (by assumption) (by assumption)
    · apply decide_eq_decide.mpr; omega
  · apply decide_eq_decide.mpr; omega
theorem zeh (g : List LObj) (W : Wk) : ∀ (l : List Nat) (b : Nat),∃ m,us g (some (pr W b)) (l.map (pr W)) = some (pr W m)∧m ∈ b :: l∧∀ j ∈ b :: l,kle W m j
  | [],b => ⟨b,rfl,List.mem_cons_self ..,fun j hj => by rw [List.mem_singleton] at hj; subst hj; exact kle.refl W j⟩
  | x :: l,b => by
    simp only [List.map_cons,us,ltV_pr]
    by_cases q : kle W b x
    · rw [decide_eq_false (fun z => z q)]
      obtain ⟨m,e,h1,h2⟩ := zeh g W l b
      refine ⟨m,e,?_,fun j hj => ?_⟩
      · rcases List.mem_cons.mp h1 with rfl | h1
        · exact List.mem_cons_self ..
        · exact List.mem_cons_of_mem _ (List.mem_cons_of_mem _ h1)
      · rcases List.mem_cons.mp hj with rfl | hj
        · exact h2 _ (List.mem_cons_self ..)
        · rcases List.mem_cons.mp hj with rfl | hj
          · exact (h2 b (List.mem_cons_self ..)).trans q
          · exact h2 _ (List.mem_cons_of_mem _ hj)
    · rw [decide_eq_true q]
      obtain ⟨m,e,h1,h2⟩ := zeh g W l x
      refine ⟨m,e,List.mem_cons_of_mem _ h1,fun j hj => ?_⟩
      rcases List.mem_cons.mp hj with rfl | hj
      · exact (h2 x (List.mem_cons_self ..)).trans ((kle.total W x j).resolve_right q)
      · exact h2 _ hj
noncomputable def vd (W : Wk) (h : Int) : List Nat := (List.range W.N).filter fun k => decide (W.row k≤h∧h≤Sim.lastOf W k)
theorem zi2 (Sm : Sim W rem pk) (O : WkOk W) (h : Nat) (g : List LObj) : match us g none ((vd W h).map (pr W)) with
    | some v => ∃ m,v = pr W m∧Sim.pkI pk h = (m : Int)
    | none => Sim.pkI pk h = -1∧vd W h = [] := by
  have hmem : ∀ k,k ∈ vd W h↔k < W.N∧W.row k≤h∧0 < rem h k := by
    intro k
    unfold vd
    rw [List.mem_filter,List.mem_range,decide_eq_true_eq]
    constructor
    · rintro ⟨a,b,c⟩; exact ⟨a,b,(Sm.live_iff O a b).mpr c⟩
    · rintro ⟨a,b,c⟩; exact ⟨a,b,(Sm.live_iff O a b).mp c⟩
  cases hl : vd W h with
  | nil =>
    simp only [List.map_nil,us]
    refine ⟨?_,trivial⟩
    unfold Sim.pkI
    cases q : pk h with
    | none => rfl
    | some k =>
      obtain ⟨a,b,c,_⟩ := Sm.pick h k q
      have := (hmem k).mpr ⟨a,b,c⟩
      rw [hl] at this; injection this
  | cons b l =>
    simp only [List.map_cons,us]
    obtain ⟨m,e,h1,h2⟩ := zeh g W l b
    rw [e]
    refine ⟨m,rfl,Sim.pkI_eq.mpr ?_⟩
    rw [← hl] at h1 h2
    obtain ⟨a,bb,cc⟩ := (hmem m).mp h1
    cases q : pk h with
    | none => exact absurd cc (Sm.idle h q m a bb)
    | some k =>
      obtain ⟨a',b',c',d'⟩ := Sm.pick h k q
      rw [kle.anti (d' m a bb cc) (h2 k ((hmem k).mpr ⟨a',b',c'⟩))]
theorem zek : ∀ (l : List Int),l≠[]→maxL l ∈ l∧∀ x ∈ l,x≤maxL l := by
  have key : ∀ (l : List Int) (b : Int),l.foldl max b ∈ b :: l∧∀ x ∈ b :: l,x≤l.foldl max b := by
    intro l
    induction l with
    | nil => intro b; simp
    | cons a l ih =>
      intro b
      obtain ⟨h1,h2⟩ := ih (max b a)
      simp only [List.foldl_cons]
      refine ⟨?_,fun x hx => ?_⟩
      · rcases List.mem_cons.mp h1 with h1 | h1
        · rw [h1]
          by_cases q : b≤a
          · rw [show max b a = a by exact o348 q]; simp
          · rw [show max b a = b by exact o349 q]; simp
        · exact List.mem_cons_of_mem _ (List.mem_cons_of_mem _ h1)
      · have hm := h2 (max b a) (List.mem_cons_self ..)
        rcases List.mem_cons.mp hx with rfl | hx
        · exact o350 hm
        · rcases List.mem_cons.mp hx with rfl | hx
          · exact o351 hm
          · exact h2 x (List.mem_cons_of_mem _ hx)
  intro l hl
  cases l with
  | nil => exact absurd rfl hl
  | cons a l => exact key l a
theorem maxL_eq {l1 l2 : List Int} (h1 : l1≠[]) (h2 : l2≠[]) (h12 : ∀ x ∈ l1,∃ y ∈ l2,x≤y) (h21 : ∀ x ∈ l2,∃ y ∈ l1,x≤y) : maxL l1 = maxL l2 := by
  obtain ⟨a,b⟩ := zek l1 h1
  obtain ⟨c,d⟩ := zek l2 h2
  obtain ⟨y,hy,hle⟩ := h12 _ a
  obtain ⟨z,hz,hle'⟩ := h21 _ c
  have := d y hy
  have := b z hz
  exact o352 hle hle' (by assumption) this
theorem zky {i : Nat} {l : List Int} (h : g[i]? = some (.lst (l.map .int))) (hne : l≠[]) (hz : l.length≤100000) : maxF [.ref i] g = some (.int (maxL l),g) := by
  simp only [maxF,jf,h]
  rw [if_pos (by simp; rw [qy]; exact o208 hz),yq]
  cases l with
  | nil => exact absurd rfl hne
  | cons a r => rfl
end Mine
end
section
namespace Mine
open PySem PyProof.Rows
theorem itemX {g : List LObj} {i k : Nat} {xs : List V} (h : g[i]? = some (.lst xs)) (hz : xs.length≤100000) : jg g (.ref i) (.int (k : Int)) = xs[k]? := by
  unfold jg
  simp only [h]
  rw [if_pos (by rw [qy]; exact o208 hz),if_pos (Int.natCast_nonneg k),Int.toNat_natCast]
noncomputable abbrev zkd (n : Nat) : LM Fl := (seqS (asgS 16 (kb n (ldE 8) 1 [11,9,3] (stS 0) (andT (cmpT leV (zu (zu (ldE 3) (ldE 0)) (zd (.int 0))) (ldE 1)) (cmpT leV (ldE 1) (zu (ldE 2) (ldE 0)))) (tupE (zl (zu (zu (ldE 3) (ldE 0)) (zd (.int 1))) (zl (ldE 0) nilL))))) (seqS (ja (q5 qf zt (ldE 10) (zl (iteL (cmpT neV (ldE 16) (lstE nilL)) (zu (zr minF (zl (ldE 16) nilL)) (zd (.int 1))) (unE negV (zd (.int 1)))) nilL))) zm))
section
variable (n N : Nat) (ws : List T3) (sa : Addr) (nb wk wr a b ls td : Nat) (bp : V) (x5 x6 x7 x12 x13 : Option V)
noncomputable abbrev locF (x9 x10 x11 x16 : Option V) : List (Option V) :=
  [some (.ext sa),some (.ref nb),some bp,some (.ref wk),some (.ref wr),x5,x6,x7,some (.rng 0 (N : Int)),x9,x10,x11,x12,x13,some (.ref a),some (.ref b),x16]
end
variable {n N : Nat} {ws : List T3} {sa : Addr} {nb wk wr a b ls td : Nat} {bp : V} {x5 x6 x7 x12 x13 : Option V} {G : List LObj} {pk : Nat→Option Nat} {rem : Nat→Nat→Int}
set_option tactic.hygienic true in
theorem zkc (hn : N < n) (hNw : ws.length = N) (hN : N≤100) (O : WkOk (wkOf ws)) (Sm : Sim (wkOf ws) rem pk) (hw : G[wk]? = some (.lst (ws.map it))) (hl : G[ls]? = some (.lst (((List.range N).map fun k => Sim.lastOf (wkOf ws) k).map .int))) (ht : ∀ (j : Nat),j≤5000→True) {j : Nat} (hj : j≤5000) (htd : G[td]? = some (.lst ((Sim.planL pk j).map .int))) (x11 x16 : Option V) :
    ∃ x16' G',zw (stS 11 (.int (1 + (j : Int)))) (fun _ => zkd n) ⟨locF N sa nb wk wr a b bp x5 x6 x7 x12 x13 (some (.ref ls)) (some (.ref td)) x11 x16,G⟩ = some (.next,⟨locF N sa nb wk wr a b bp x5 x6 x7 x12 x13 (some (.ref ls)) (some (.ref td)) (some (.int (1 + (j : Int)))) x16',G'⟩) ∧
      G'[td]? = some (.lst ((Sim.planL pk (j + 1)).map .int))∧Keep [td] G G' := by
  let W := wkOf ws
  have hWN : W.N = N := hNw
  have hzl : (((List.range N).map fun k => Sim.lastOf W k).map V.int).length≤100000 := by simp; exact o353 hNw hN hWN
  have hzs : ws.length≤szL := by rw [qy]; exact o354 hNw hN hWN
  have z2 : (2 : Nat)≤szL := by decide
  have z0 : (0 : Nat)≤szL := Nat.zero_le _
  obtain ⟨j1,e1⟩ := y0 n N hn hN G (locF N sa nb wk wr a b bp x5 x6 x7 x12 x13 (some (.ref ls)) (some (.ref td)) (some (.int (1 + (j : Int)))) x16) rfl [11,9,3]
    (test := (andT (cmpT leV (zu (zu (ldE 3) (ldE 0)) (zd (.int 0))) (ldE 1)) (cmpT leV (ldE 1) (zu (ldE 2) (ldE 0))))) (elt := (tupE (zl (zu (zu (ldE 3) (ldE 0)) (zd (.int 1))) (zl (ldE 0) nilL))))
    (fun k => if W.row k≤1 + (j : Int)∧1 + (j : Int)≤Sim.lastOf W k then some (pr W k) else none) (by
      intro k hk x junk
      refine ⟨[],?_⟩
      have iw := ux (g := G++x :: junk) (qw hw) hzs (i := k) (o355 hNw hWN hk)
      have il : jg (G++x :: junk) (.ref ls) (.int (k : Int)) = some (.int (Sim.lastOf W k)) := by
        rw [itemX (qw hl) hzl,List.getElem?_map,List.getElem?_map,List.getElem?_range hk]; rfl
      obtain ⟨t0,t1,t2⟩ := yw (G++x :: junk) (at3 ws k)
      simp only [List.map_cons,List.map_nil,locF,zzs,zzz,Option.join_some,List.append_nil]
      by_cases q1 : (at3 ws k).1≤1 + (j : Int)
      · by_cases q2 : 1 + (j : Int)≤Sim.lastOf W k
        · rw [if_pos ⟨q1,q2⟩]
          refine ⟨by simp? only [iw,il,t0,zhm q1,zhm q2],?_⟩
          simp? only [iw,t1,List.length_cons,List.length_nil,Nat.reduceAdd,z2,if_true]
          rfl
        · rw [if_neg (fun z => q2 z.2)]
          simp? only [iw,il,t0,zhm q1,zhn q2]
      · rw [if_neg (fun z => q1 z.1)]
        simp? only [iw,il,t0,zhn q1])
  have hf : ((List.range N).filterMap fun k => if W.row k≤1 + (j : Int)∧1 + (j : Int)≤Sim.lastOf W k then some (pr W k) else none) = (vd W ((j + 1 : Nat) : Int)).map (pr W) := by
    unfold vd
    rw [hWN,show ((j + 1 : Nat) : Int) = 1 + (j : Int) by exact o356,← List.filterMap_eq_map,List.filterMap_filter]
    refine jn fun k _ => ?_
    by_cases q : W.row k≤1 + (j : Int)∧1 + (j : Int)≤Sim.lastOf W k
    · simp [q]
    · rw [if_neg q]; simp [q]
  rw [hf] at e1
  have tp := zi2 Sm O (j + 1) (G++.lst ((vd W ((j + 1 : Nat) : Int)).map (pr W)) :: j1++[LObj.lst []])
  have s1 : (G++.lst ((vd W ((j + 1 : Nat) : Int)).map (pr W)) :: j1)[G.length]? = some (.lst ((vd W ((j + 1 : Nat) : Int)).map (pr W))) := jm _ _
  have s2 : (G++.lst ((vd W ((j + 1 : Nat) : Int)).map (pr W)) :: j1++[LObj.lst []])[G.length]? = some (.lst ((vd W ((j + 1 : Nat) : Int)).map (pr W))) := qw s1
  have nl := neL s1
  generalize hH : G++.lst ((vd W ((j + 1 : Nat) : Int)).map (pr W)) :: j1 = H at *
  have tdH : H[td]? = some (.lst ((Sim.planL pk j).map .int)) := by rw [← hH]; exact qw htd
  have tdH2 : (H++[LObj.lst []])[td]? = some (.lst ((Sim.planL pk j).map .int)) := qw tdH
  have isl : qf H (.ref td) = true := by simp only [qf,tdH]
  have ap : ∀ v,zt [.ref td,v] (H++[LObj.lst []]) = some (.none,(H++[LObj.lst []]).set td (.lst ((Sim.planL pk j).map .int++[v]))) := fun v => by
    simp only [zt,tdH2]; rw [if_pos (by rw [List.length_map,Sim.planL_len,qy]; exact o357 hj)]
  have hpl : (Sim.planL pk j).map V.int++[.int (Sim.pkI pk (j + 1))] = (Sim.planL pk (j + 1)).map V.int := by rw [Sim.planL_succ,List.map_append]; rfl
  refine ⟨some (.ref G.length),(H++[LObj.lst []]).set td (.lst ((Sim.planL pk (j + 1)).map .int)),?_,getS tdH2 _,?_⟩
  · rw [vp,yy]
    try dsimp? only [zj]
    dsimp? only [locF,zts,ztz]
    unfold zkd
    rw [zq,qv,e1]
    try dsimp? only [zj]
    dsimp? only [zts,ztz]
    rw [zq,wv,wm]
    try dsimp? only [zj]
    dsimp? only [qn,zzs,zzz,isl,if_true]
    rw [jw,jz,jp]
    try dsimp? only [zj]
    simp? only [List.length_nil,z0,if_true]
    rw [nl]
    split at tp
    · rename_i v hv
      obtain ⟨m,rfl,hpk⟩ := tp
      have hne : (vd W ((j + 1 : Nat) : Int)).map (pr W)≠[] := fun z => by rw [z] at hv; injection hv
      have mn : minF [.ref G.length] (H++[LObj.lst []]) = some (pr W m,H++[LObj.lst []]) := by
        simp only [minF,s2]
        rw [show us (H++[LObj.lst []]) none ((vd W ((j + 1 : Nat) : Int)).map (pr W)) = some (pr W m) from hv]; rfl
      have im : ∀ g : List LObj,jg g (pr W m) (.int 1) = some (.int (m : Int)) := fun g => by
        unfold jg pr; simp only; rw [if_pos ⟨by decide,by simp; decide⟩]; rfl
      rw [decide_eq_true hne]
      simp? only [mn,im,ap]
      rw [← hpk,hpl]
    · rename_i hv
      have hne : ¬ (vd W ((j + 1 : Nat) : Int)).map (pr W)≠[] := fun z => z (by rw [tp.2]; rfl)
      rw [decide_eq_false hne]
      simp? only [negV,ap]
      rw [← tp.1,hpl]
  · rw [← hH]
    exact ((Keep.app _ _ _).trans (Keep.app _ _ _)).trans (Keep.set (by simp) _)
end Mine
end
section
namespace Mine
open PySem PyProof.Rows
noncomputable abbrev xsOf (ns : List Int) : List Int := ns.take 5++[36,25,18]
theorem zkf (sa : Addr) (ns : List Int) : ∃ p ∈ pairs,∃ g,BS 3 5 6 (xsOf ns) p g 0∧∀ REST : LM Fl,
    (seqS (asgS 1 (binG catV (zj1 sa ns (ldE 0) (zd (.int 5))) (lstE (zl (zd (.int 36)) (zl (zd (.int 25)) (zl (zd (.int 18)) nilL)))))) (seqS (asgS 2 (zu (lstE (zl (zd (.bytes [43,47])) (zl (zd (.bytes [34,32])) (zl (zd (.bytes [92,34])) (zl (zd (.bytes [32,92])) (zl (zd (.bytes [45,95])) nilL)))))) (binE modV (zr sumF (zl (ldE 1) nilL)) (zd (.int 5))))) (seqS (asgS 3 (lstE nilL)) (seqS (asgS 4 (lstE nilL)) (seqS (asgS 5 (zd (.int 1))) (seqS (asgS 6 (zd (.str []))) REST)))))) ⟨some (.ext sa) :: List.replicate 16 none,[.tab []]⟩ =
      REST ⟨locB sa 3 5 6 (xsOf ns) p 0 none none none,g⟩ := by
  have z0 : (0 : Nat)≤szL := Nat.zero_le _
  have z3 : (3 : Nat)≤szL := by decide
  have z5 : (5 : Nat)≤szL := by decide
  have hx : (ns.map V.int).take 5++[V.int 36,.int 25,.int 18] = (xsOf ns).map V.int := by simp [xsOf,List.map_take]
  have hxl : (xsOf ns).length≤8 := by simp [xsOf]; exact o358
  let five : LObj := .lst [.bytes [43,47],.bytes [34,32],.bytes [92,34],.bytes [32,92],.bytes [45,95]]
  obtain ⟨p,hp,hit⟩ : ∃ p ∈ pairs,jg [.tab [],.lst ((ns.map V.int).take 5),.lst [.int 36,.int 25,.int 18],.lst ((xsOf ns).map V.int),five] (.ref 4) (.int ((xsOf ns).sum % 5)) = some (.bytes [p.1.toUInt8,p.2.toUInt8]) := by
    have h0 := Int.emod_nonneg (xsOf ns).sum (show (5 : Int)≠0 by decide)
    have h5 := Int.emod_lt_of_pos (xsOf ns).sum (show (0 : Int) < 5 by decide)
    obtain ⟨k,hk⟩ : ∃ k : Nat,(xsOf ns).sum % 5 = (k : Int) := ⟨((xsOf ns).sum % 5).toNat,by exact o359 h0⟩
    rw [hk] at h5 ⊢
    have : k = 0∨k = 1∨k = 2∨k = 3∨k = 4 := by exact o360 h0 hk
    have hf : ([.tab [],.lst ((ns.map V.int).take 5),.lst [.int 36,.int 25,.int 18],.lst ((xsOf ns).map V.int),five] : List LObj)[4]? = some (.lst [.bytes [43,47],.bytes [34,32],.bytes [92,34],.bytes [32,92],.bytes [45,95]]) := rfl
    rw [itemX hf (by decide)]
    rcases this with rfl | rfl | rfl | rfl | rfl
    · exact ⟨(43,47),by decide,rfl⟩
    · exact ⟨(34,32),by decide,rfl⟩
    · exact ⟨(92,34),by decide,rfl⟩
    · exact ⟨(32,92),by decide,rfl⟩
    · exact ⟨(45,95),by decide,rfl⟩
  refine ⟨p,hp,[.tab [],.lst ((ns.map V.int).take 5),.lst [.int 36,.int 25,.int 18],.lst ((xsOf ns).map V.int),five,.lst [],.lst []],⟨rfl,rfl,rfl,rfl,by decide⟩,fun REST => ?_⟩
  have up : zj1 sa ns (ldE 0) (zd (.int 5)) ⟨some (.ext sa) :: List.replicate 16 none,[.tab []]⟩ = some (.ref 1,⟨some (.ext sa) :: List.replicate 16 none,[.tab [],.lst ((ns.map V.int).take 5)]⟩) := by
    unfold zj1
    rw [qp (a := .ext sa) (st' := ⟨some (.ext sa) :: List.replicate 16 none,[.tab []]⟩) rfl,qp (a := .int 5) (st' := ⟨some (.ext sa) :: List.replicate 16 none,[.tab []]⟩) rfl]
    simp only
    rw [if_pos ⟨trivial,by decide⟩]
    rfl
  have cat : catV [.tab [],.lst ((ns.map V.int).take 5),.lst [.int 36,.int 25,.int 18]] (.ref 1) (.ref 2) = some (.ref 3,[.tab [],.lst ((ns.map V.int).take 5),.lst [.int 36,.int 25,.int 18],.lst ((xsOf ns).map V.int)]) := by
    simp only [catV,zzs,zzz]
    rw [if_pos (by have : szL = 16777216 := rfl; simp; exact o361 this),hx]
    rfl
  have sm : ∀ l : List LObj,sumF [.ref 3] (.tab [] :: .lst ((ns.map V.int).take 5) :: .lst [.int 36,.int 25,.int 18] :: .lst ((xsOf ns).map V.int) :: l) = some (.int (xsOf ns).sum,(.tab [] :: .lst ((ns.map V.int).take 5) :: .lst [.int 36,.int 25,.int 18] :: .lst ((xsOf ns).map V.int) :: l)) := fun l => by
    simp only [sumF,jf,zzs,zzz]
    rw [if_pos (by rw [List.length_map,qy]; exact o362 hxl),yq]; rfl
  have md : modV (.int (xsOf ns).sum) (.int 5) = some (.int ((xsOf ns).sum % 5)) := by unfold modV; simp only; rw [if_pos (by decide)]
  rw [zq,qv,zlp,up]
  try dsimp? only [zj]
  simp? only [List.length_cons,List.length_nil,Nat.reduceAdd,z3,if_true,List.cons_append,List.nil_append]
  rw [cat]
  simp? only [List.length_cons,List.length_nil,Nat.reduceAdd,z5,if_true,List.cons_append,List.nil_append,List.replicate,sm,md]
  rw [show ([.tab [],.lst ((ns.map V.int).take 5),.lst [.int 36,.int 25,.int 18],.lst ((xsOf ns).map V.int),.lst [.bytes [43,47],.bytes [34,32],.bytes [92,34],.bytes [32,92],.bytes [45,95]]] : List LObj) = [.tab [],.lst ((ns.map V.int).take 5),.lst [.int 36,.int 25,.int 18],.lst ((xsOf ns).map V.int),five] from rfl,hit]
  simp? only [List.length_cons,List.length_nil,Nat.reduceAdd,z0,if_true,List.cons_append,List.nil_append]
  rfl
theorem zlk (n : Nat) (hn : 1000 < n) (sa : Addr) {xs : List Int} {p : Nat × Nat} (hp : p ∈ pairs) (hz : xs.length≤20) {nb wk wr : Nat} {g : List LObj} (h : BS nb wk wr xs p g 0) :
    ∃ g' x7 x12 x13,forS n (zr j7 (zl (zr lenF (zl (ldE 1) nilL)) nilL)) (stS 7) (zgf n) ⟨locB sa nb wk wr xs p 0 none none none,g⟩ = some (.next,⟨locB sa nb wk wr xs p xs.length x7 x12 x13,g'⟩)∧BS nb wk wr xs p g' xs.length := by
  let P : Nat→St→Prop := fun k st => ∃ x7 x12 x13 g,st = ⟨locB sa nb wk wr xs p k x7 x12 x13,g⟩∧BS nb wk wr xs p g k
  have hlen : lenF [.ref nb] g = some (.int (xs.length : Int),g) := by
    simp only [lenF,h.nbl]; rw [if_pos (by rw [List.length_map,qy]; exact o363 hz),List.length_map]
  obtain ⟨st',e,x7,x12,x13,g',rfl,b⟩ := y7 (n := n) (vs := (List.range xs.length).map fun i : Nat => V.int (i : Int)) (f := zr j7 (zl (zr lenF (zl (ldE 1) nilL)) nilL)) (st := ⟨locB sa nb wk wr xs p 0 none none none,g⟩) (st₁ := ⟨locB sa nb wk wr xs p 0 none none none,g⟩) (v := .rng 0 (xs.length : Int)) (asg := stS 7) (body := zgf n) (P := P)
    (by simp? only [locB,hlen,j7]) (zhb (by exact o364 hz)) (fun j st _ => rfl) (by
      rintro k v st hv hx0; obtain ⟨x7,x12,x13,g,rfl,b⟩ := hx0
      have hk : k < xs.length := by have := (List.getElem?_eq_some_iff.mp hv).1; simpa using this
      rw [zko hk] at hv
      obtain rfl := Option.some.inj hv
      obtain ⟨g',x12',x13',e,b'⟩ := zjn hn sa hp hz hk b x7 x12 x13
      exact ⟨_,.inl e,_,_,_,g',rfl,b'⟩) ⟨none,none,none,g,rfl,h⟩ (by simp; exact o365 hn hz)
  rw [show ((List.range xs.length).map fun i : Nat => V.int (i : Int)).length = xs.length by simp] at e b
  exact ⟨g',x7,x12,x13,e,b⟩
variable {n N : Nat} {ws : List T3} {sa : Addr} {nb wk wr a b ls td : Nat} {bp : V} {x5 x6 x7 x12 x13 : Option V} {G : List LObj} {pk : Nat→Option Nat} {rem : Nat→Nat→Int}
theorem zjj (hn : N < n) (hNw : ws.length = N) (hN : N≤100) (O : WkOk (wkOf ws)) (Sm : Sim (wkOf ws) rem pk) {T : Nat} (hT : T≤1000) (hTl : ∀ k,k < N→Sim.lastOf (wkOf ws) k≤T) (hw : G[wk]? = some (.lst (ws.map it))) (ha : G[a]? = some (.lst ((Sim.planL pk T).map .int))) (x9 x10 x11 x16 : Option V) :
    ∃ junk,(cmpT neV (kb n (ldE 8) 1 [14] (stS 0) yesT (q5 qf zcc (ldE 1) (zl (ldE 0) nilL))) (kb n (ldE 8) 1 [3] (stS 0) yesT (zu (zu (ldE 1) (ldE 0)) (zd (.int 2))))) ⟨locF N sa nb wk wr a b bp x5 x6 x7 x12 x13 x9 x10 x11 x16,G⟩ = some (false,⟨locF N sa nb wk wr a b bp x5 x6 x7 x12 x13 x9 x10 x11 x16,G++junk⟩) := by
  let W := wkOf ws
  have hzs : ws.length≤szL := by rw [qy]; exact o366 hNw hN
  obtain ⟨j1,e1⟩ := y0 n N hn hN G (locF N sa nb wk wr a b bp x5 x6 x7 x12 x13 x9 x10 x11 x16) rfl [14] (test := yesT) (elt := q5 qf zcc (ldE 1) (zl (ldE 0) nilL)) (fun k => some (.int (W.hrs k))) (by
    intro k hk x junk
    refine ⟨[],rfl,?_⟩
    have ha' : (G++x :: junk)[a]? = some (.lst ((Sim.planL pk T).map .int)) := qw ha
    have ct : zcc [.ref a,.int (k : Int)] (G++x :: junk) = some (.int (W.hrs k),G++x :: junk) := by
      simp only [zcc,jf,ha']
      rw [if_pos (by rw [List.length_map,Sim.planL_len,qy]; exact o141 hT),yq,Option.map_some]
      have := Sm.count_hrs O (k := k) (T := T) (show k < ws.length by exact o51 hNw hk) (hTl k hk)
      rw [this]
    have il : qf (G++x :: junk) (.ref a) = true := by simp only [qf,ha']
    simp only [List.map_cons,List.map_nil,locF,zzs,zzz,Option.join_some,List.append_nil]
    simp? only [il,if_true,ct])
  obtain ⟨j2,e2⟩ := y0 n N hn hN (G++.lst ((List.range N).filterMap fun k => some (.int (W.hrs k))) :: j1) (locF N sa nb wk wr a b bp x5 x6 x7 x12 x13 x9 x10 x11 x16) rfl [3] (test := yesT) (elt := zu (zu (ldE 1) (ldE 0)) (zd (.int 2))) (fun k => some (.int (W.hrs k))) (by
    intro k hk x junk
    refine ⟨[],rfl,?_⟩
    have iw := ux (g := (G++.lst ((List.range N).filterMap fun k => some (.int (W.hrs k))) :: j1)++x :: junk) (qw (qw hw)) hzs (i := k) (o51 hNw hk)
    have t2 := (yw ((G++.lst ((List.range N).filterMap fun k => some (.int (W.hrs k))) :: j1)++x :: junk) (at3 ws k)).2.2
    simp only [List.map_cons,List.map_nil,locF,zzs,zzz,Option.join_some,List.append_nil]
    simp? only [iw,t2]
    rfl)
  have hints : (List.range N).filterMap (fun k => some (V.int (W.hrs k))) = ((List.range N).map fun k => W.hrs k).map V.int := by rw [je,List.map_map]; rfl
  have ne := neLf (g := (G++.lst ((List.range N).filterMap fun k => some (V.int (W.hrs k))) :: j1)++.lst ((List.range N).filterMap fun k => some (V.int (W.hrs k))) :: j2) (i := G.length) (j := (G++LObj.lst ((List.range N).filterMap fun k => some (V.int (W.hrs k))) :: j1).length) (qw (jm _ _)) (jm _ _) (by rw [hints]; exact zgb _)
  refine ⟨.lst ((List.range N).filterMap fun k => some (V.int (W.hrs k))) :: j1++.lst ((List.range N).filterMap fun k => some (V.int (W.hrs k))) :: j2,?_⟩
  rw [jp,e1]
  try dsimp? only [zj]
  rw [e2]
  dsimp? only [ne]
  rw [List.append_assoc]
theorem late_run (hn : N < n) (hNw : ws.length = N) (hpos : 0 < N) (hN : N≤100) (O : WkOk (wkOf ws)) (Sm : Sim (wkOf ws) rem pk) {T : Nat} (hT : T≤1000) (hTl : ∀ k,k < N→Sim.lastOf (wkOf ws) k≤T) (hw : G[wk]? = some (.lst (ws.map it))) (ha : G[a]? = some (.lst ((Sim.planL pk T).map .int))) (x9 x10 x11 x16 : Option V) :
    ∃ junk,(cmpT neV (zr maxF (zl (kb n (ldE 8) 1 [14,3] (stS 0) yesT (binE subV (binE subV (zr lenF (zl (ldE 1) nilL)) (q5 qf zb5 (unG revV (ldE 1)) (zl (ldE 0) nilL))) (zu (zu (ldE 2) (ldE 0)) (zd (.int 1))))) nilL)) (zr (q6 n) (zl (ldE 3) nilL))) ⟨locF N sa nb wk wr a b bp x5 x6 x7 x12 x13 x9 x10 x11 x16,G⟩ = some (false,⟨locF N sa nb wk wr a b bp x5 x6 x7 x12 x13 x9 x10 x11 x16,G++junk⟩) := by
  let W := wkOf ws
  have hWN : W.N = N := hNw
  have hzs : ws.length≤szL := by rw [qy]; exact o367 hNw hpos hN hWN
  have hpl : ((Sim.planL pk T).map V.int).length≤szL := by rw [List.length_map,Sim.planL_len,qy]; exact o141 hT
  obtain ⟨j1,e1⟩ := y0 n N hn hN G (locF N sa nb wk wr a b bp x5 x6 x7 x12 x13 x9 x10 x11 x16) rfl [14,3] (test := yesT) (elt := (binE subV (binE subV (zr lenF (zl (ldE 1) nilL)) (q5 qf zb5 (unG revV (ldE 1)) (zl (ldE 0) nilL))) (zu (zu (ldE 2) (ldE 0)) (zd (.int 1))))) (fun k => some (.int (Sim.lastOf W k - W.due k))) (by
    intro k hk x junk
    refine ⟨[.lst ((Sim.planL pk T).map V.int).reverse],rfl,?_⟩
    have ha' : (G++x :: junk)[a]? = some (.lst ((Sim.planL pk T).map .int)) := qw ha
    have ln : lenF [.ref a] (G++x :: junk) = some (.int ((Sim.planL pk T).length : Int),G++x :: junk) := by
      simp only [lenF,ha']; rw [if_pos hpl,List.length_map]
    have rv : revV (G++x :: junk) (.ref a) = some (.ref (G++x :: junk).length,(G++x :: junk)++[.lst ((Sim.planL pk T).map V.int).reverse]) := by
      simp only [revV,ha']; rw [if_pos hpl]
    have hrv : ((Sim.planL pk T).map V.int).reverse = (Sim.planL pk T).reverse.map V.int := by rw [List.map_reverse]
    have gr : ((G++x :: junk)++[LObj.lst ((Sim.planL pk T).map V.int).reverse])[(G++x :: junk).length]? = some (.lst ((Sim.planL pk T).reverse.map V.int)) := by rw [jm,hrv]; rfl
    have il : qf ((G++x :: junk)++[LObj.lst ((Sim.planL pk T).map V.int).reverse]) (.ref (G++x :: junk).length) = true := by simp only [qf,gr]
    have hkN : k < W.N := by rw [hWN]; exact hk
    have mem := Sm.mem_plan O (k := k) (T := T) hkN (hTl k hk)
    have ix : zb5 [.ref (G++x :: junk).length,.int (k : Int)] ((G++x :: junk)++[.lst ((Sim.planL pk T).map V.int).reverse]) = some (.int ((Sim.planL pk T).reverse.idxOf (k : Int) : Nat),(G++x :: junk)++[.lst ((Sim.planL pk T).map V.int).reverse]) := by
      simp only [zb5,jf,gr]
      rw [if_pos (by rw [List.length_map,List.length_reverse,Sim.planL_len,qy]; exact o141 hT),yq]
      simp only
      rw [if_pos (List.mem_reverse.mpr mem)]
    have iw := ux (g := (G++x :: junk)++[.lst ((Sim.planL pk T).map V.int).reverse]) (qw (qw hw)) hzs (i := k) (o355 hNw hWN hk)
    have t1 := (yw ((G++x :: junk)++[.lst ((Sim.planL pk T).map V.int).reverse]) (at3 ws k)).2.1
    have lt := Sm.late_plan O (k := k) (T := T) hkN (hTl k hk)
    simp only [List.map_cons,List.map_nil,locF,zzs,zzz,Option.join_some]
    simp? only [ln,rv,il,if_true,ix,subV,iw,t1]
    rw [lt,List.append_assoc]
    rfl)
  have hints : (List.range N).filterMap (fun k => some (V.int (Sim.lastOf W k - W.due k))) = ((List.range N).map fun k => Sim.lastOf W k - W.due k).map V.int := by rw [je,List.map_map]; rfl
  rw [hints] at e1
  have hne1 : ((List.range N).map fun k => Sim.lastOf W k - W.due k)≠[] := by
    intro z; have := congrArg List.length z; simp at this; exact o368 hNw hpos hN hWN this
  have mx := zky (g := G++.lst (((List.range N).map fun k => Sim.lastOf W k - W.due k).map V.int) :: j1) (i := G.length) (l := (List.range N).map fun k => Sim.lastOf W k - W.due k) (jm _ _) hne1 (by simp; exact o369 hNw hpos hN hWN)
  obtain ⟨j2,e2⟩ := zk2 n ws (o370 hn hNw hWN) (o371 hNw hpos hN hWN) (o372 hNw hpos hN hWN) (G++.lst (((List.range N).map fun k => Sim.lastOf W k - W.due k).map V.int) :: j1) wk (qw hw)
  have hmm : maxL ((List.range N).map fun k => Sim.lastOf W k - W.due k) = maxL (yp ws) := by
    refine maxL_eq hne1 (fun z => ?_) (fun x hx => ?_) (fun x hx => ?_)
    · have : Sim.room W 0 0 ∈ yp ws := (y3 ws _).mpr ⟨0,0,by exact o372 hNw hpos hN hWN,by exact o372 hNw hpos hN hWN,⟨0,by exact o372 hNw hpos hN hWN,Int.le_refl _,Int.le_refl _⟩,rfl⟩
      rw [z] at this; injection this
    · obtain ⟨k,hk,rfl⟩ := List.mem_map.mp hx
      have hkN : k < W.N := by rw [hWN]; exact List.mem_range.mp hk
      obtain ⟨i,hi,hin,hle⟩ := Sim.horn_le O hkN
      exact ⟨Sim.room W i k,(y3 ws _).mpr ⟨i,k,hi,hkN,⟨i,hi,hin⟩,rfl⟩,hle⟩
    · obtain ⟨i,k,hi,hk,⟨j,hj,hin⟩,rfl⟩ := (y3 ws x).mp hx
      obtain ⟨m,hm,hle⟩ := Sm.horn_ge O (i := i) (k := k) (j₀ := j) hi hj hin
      exact ⟨Sim.lastOf W m - W.due m,List.mem_map.mpr ⟨m,List.mem_range.mpr (by rw [← hWN]; exact hm),rfl⟩,hle⟩
  have nv : ∀ (g : List LObj) (x : Int),neV g (.int x) (.int x) = some false := fun g x => by unfold neV eqV; simp
  refine ⟨.lst (((List.range N).map fun k => Sim.lastOf W k - W.due k).map V.int) :: j1++j2,?_⟩
  rw [jp,vt,jw,e1]
  try dsimp? only [zj]
  dsimp? only [j9,mx]
  rw [vt,jw]
  try dsimp? only [zj]
  dsimp? only [qn,locF,zzs,zzz,j9,e2]
  rw [hmm,nv,List.append_assoc]
  rfl
end Mine
end
section
namespace Mine
open PySem PyProof.Rows
variable {n N : Nat} {ws : List T3} {sa : Addr} {nb wk wr a b ls td : Nat} {bp : V} {x5 x6 x7 x12 x13 : Option V} {G : List LObj} {pk : Nat→Option Nat} {rem : Nat→Nat→Int}
theorem zk5 (hn : N < n) (hn2 : 1000 < n) (hNw : ws.length = N) (hN : N≤100) (hw : G[wk]? = some (.lst (ws.map it))) (x9 x10 x11 x16 : Option V) :
    ∃ junk,kb n (ldE 8) 1 [3] (stS 0) yesT (zr (js n) (zl (ldE 1) (zl (ldE 0) nilL))) ⟨locF N sa nb wk wr a b bp x5 x6 x7 x12 x13 x9 x10 x11 x16,G⟩ = some (.ref G.length,⟨locF N sa nb wk wr a b bp x5 x6 x7 x12 x13 x9 x10 x11 x16,G++.lst (((List.range N).map fun k => Sim.lastOf (wkOf ws) k).map .int) :: junk⟩) := by
  have : (List.range N).filterMap (fun k => some (V.int (Sim.lastOf (wkOf ws) k))) = ((List.range N).map fun k => Sim.lastOf (wkOf ws) k).map V.int := by rw [je,List.map_map]; rfl
  rw [← this]
  refine y0 n N hn hN G _ rfl [3] (test := yesT) (fun k => some (.int (Sim.lastOf (wkOf ws) k))) fun k hk x junk => ?_
  obtain ⟨more,e⟩ := zer n ws (o373 hn hNw) (o374 hNw hN) k (o51 hNw hk) (G++x :: junk) wk (qw hw)
  refine ⟨more,rfl,?_⟩
  simp only [List.map_cons,List.map_nil,locF,zzs,zzz,Option.join_some]
  simp? only [e,List.append_assoc,List.cons_append]
theorem told_run (hn : 1000 < n) (hNw : ws.length = N) (hpos : 0 < N) (hN : N≤100) (O : WkOk (wkOf ws)) (Sm : Sim (wkOf ws) rem pk) {T : Nat} (hT : T≤900) (hTl : ∀ k,k < N→Sim.lastOf (wkOf ws) k≤T) (hTm : ∃ k,k < N∧(T : Int)≤Sim.lastOf (wkOf ws) k) (hw : G[wk]? = some (.lst (ws.map it))) (hl : G[ls]? = some (.lst (((List.range N).map fun k => Sim.lastOf (wkOf ws) k).map .int))) (htd : G[td]? = some (.lst [])) (x16 : Option V) :
    ∃ x11 x16' G',forS n (zr j7 (zl (zd (.int 1)) (zl (binE addV (zr maxF (zl (ldE 9) nilL)) (zd (.int 1))) nilL))) (stS 11) (zkd n) ⟨locF N sa nb wk wr a b bp x5 x6 x7 x12 x13 (some (.ref ls)) (some (.ref td)) none x16,G⟩ = some (.next,⟨locF N sa nb wk wr a b bp x5 x6 x7 x12 x13 (some (.ref ls)) (some (.ref td)) x11 x16',G'⟩) ∧
      G'[td]? = some (.lst ((Sim.planL pk T).map .int))∧Keep [td] G G' := by
  let W := wkOf ws
  have hmx : maxL ((List.range N).map fun k => Sim.lastOf W k) = T := by
    obtain ⟨k,hk,hk2⟩ := hTm
    obtain ⟨h1,h2⟩ := zek ((List.range N).map fun k => Sim.lastOf W k) (by intro z; have := congrArg List.length z; simp at this; exact o375 hpos hN this)
    obtain ⟨j,hj,e⟩ := List.mem_map.mp h1
    have this0 := h2 _ (List.mem_map.mpr ⟨k,List.mem_range.mpr hk,rfl⟩)
    have := hTl j (List.mem_range.mp hj)
    have e' : Sim.lastOf W j = maxL ((List.range N).map fun k => Sim.lastOf W k) := e
    have h3 : Sim.lastOf W k≤maxL ((List.range N).map fun k => Sim.lastOf W k) := this0
    have h4 : (T : Int)≤Sim.lastOf W k := hk2
    have h5 : Sim.lastOf W j≤T := this
    exact o376 e this0 h4 h5
  have mx := zky (g := G) (i := ls) hl (by intro z; have := congrArg List.length z; simp at this; exact o377 hpos hN hTm this) (by simp; exact o378 hpos hN hTm)
  rw [hmx] at mx
  have hv : wi 1 ((T : Int) + 1) = (List.range T).map fun i : Nat => V.int (1 + (i : Int)) := by
    unfold wi
    rw [show ((T : Int) + 1 - 1).toNat = T by exact o379 hT hTm hmx]
  have hs : vu G (.rng 1 ((T : Int) + 1)) = some (.vals ((List.range T).map fun i : Nat => V.int (1 + (i : Int)))) := by
    unfold vu
    simp only
    rw [if_pos ⟨by decide,by exact o380 hT hTm hmx,by exact o381 hT hTm hmx⟩,hv]
  let P : Nat→St→Prop := fun j st => ∃ x11 x16 G',st = ⟨locF N sa nb wk wr a b bp x5 x6 x7 x12 x13 (some (.ref ls)) (some (.ref td)) x11 x16,G'⟩∧G'[td]? = some (.lst ((Sim.planL pk j).map .int))∧Keep [td] G G'∧j≤T
  have nw : wk≠td := fun e => by
    rw [e,htd] at hw
    have := congrArg (fun o : Option LObj => match o with | some (.lst l) => l.length | _ => 0) hw
    simp at this; exact o382 hNw hpos hN hTm this
  have nl : ls≠td := fun e => by
    rw [e,htd] at hl
    have := congrArg (fun o : Option LObj => match o with | some (.lst l) => l.length | _ => 0) hl
    simp at this; exact o383 hpos hN hTm this
  obtain ⟨st',e,x11,x16',G',rfl,ht,kp,_⟩ := y7 (n := n) (vs := (List.range T).map fun i : Nat => V.int (1 + (i : Int))) (f := zr j7 (zl (zd (.int 1)) (zl (binE addV (zr maxF (zl (ldE 9) nilL)) (zd (.int 1))) nilL))) (st := ⟨locF N sa nb wk wr a b bp x5 x6 x7 x12 x13 (some (.ref ls)) (some (.ref td)) none x16,G⟩) (st₁ := ⟨locF N sa nb wk wr a b bp x5 x6 x7 x12 x13 (some (.ref ls)) (some (.ref td)) none x16,G⟩) (v := .rng 1 ((T : Int) + 1)) (asg := stS 11) (body := zkd n) (P := P)
    (by simp? only [locF,mx,addV,j7]) hs (fun j st _ => rfl) (by
      rintro j v st hv hx0; obtain ⟨x11,x16,G',rfl,ht,kp,hj⟩ := hx0
      have hjT : j < T := by have := (List.getElem?_eq_some_iff.mp hv).1; simpa using this
      rw [List.getElem?_map,List.getElem?_range hjT] at hv
      obtain rfl := Option.some.inj hv
      obtain ⟨x16',G'',e,ht',kp'⟩ := zkc (n := n) (o384 hn hpos hN hTm) hNw hN O Sm (kp _ _ (by simpa using nw) hw) (kp _ _ (by simpa using nl) hl) (fun _ _ => trivial) (j := j) (o385 hT hTm hmx hjT) ht x11 x16
      exact ⟨_,.inl e,_,_,G'',rfl,ht',kp.trans kp',by exact o386 hTm hmx hjT⟩) ⟨none,x16,G,rfl,htd,.refl _ _,by exact o387 hT hTm hmx⟩ (by simp; exact o388 hn hT hTm hmx)
  rw [show ((List.range T).map fun i : Nat => V.int (1 + (i : Int))).length = T by simp] at ht
  exact ⟨x11,x16',G',e,ht,kp⟩
set_option maxHeartbeats 2000000 in
theorem law_true (c fr : Addr) (sa : Addr) (ns : List Int) : ∃ n st' ls,zk4 n (kh n c fr) sa ns ⟨some (.ext sa) :: List.replicate 16 none,[.tab []]⟩ = some (.ret (.bool true),st')∧st'.g[0]? = some (.tab ls) := by
  have hn : 1000 < 2000 := by decide
  obtain ⟨p,hp,g0,b0,e0⟩ := zkf sa ns
  have hxl : (xsOf ns).length≤8∧3≤(xsOf ns).length := by simp [xsOf]; exact o358
  generalize hxs : xsOf ns = xs at *
  obtain ⟨g1,x7,x12,x13,e1,b1⟩ := zlk 2000 hn sa hp (o389 hxl) b0
  generalize hN : xs.length = N at *
  have hNw : (wksL xs N).length = N := yu xs N
  have hWN : (wkOf (wksL xs N)).N = N := hNw
  have O : WkOk (wkOf (wksL xs N)) := wk_ok xs N
  have Sm := simF (wkOf (wksL xs N))
  have J := job_of 2000 hn c fr g1.length xs hp (N := N) (o390 hN hxl hNw hWN) (o391 hN hxl hNw hWN)
  have hlb : ∀ j,j < (wkOf (wksL xs N)).N→Sim.lastOf (wkOf (wksL xs N)) j≤(900 : Nat) := zja xs N (o391 hN hxl hNw hWN)
  have hRl := Rf_len xs p N 0
  obtain ⟨T,g2,a,b,ls',e2,k2,t2,ha,hb,hT,hTl,hTm⟩ := zf0 2000 hn g1 (ls := []) ⟨by simp,by simp⟩ b1.tab J O Sm (o392 hN hxl hNw hWN) (Mx := 900) (o393) hlb (o394 hN hxl hNw hWN hRl)
  rw [hWN] at hb hTl hTm
  have hT9 : T≤900 := by
    obtain ⟨j,hj,h⟩ := hTm
    have h2 : Sim.lastOf (wkOf (wksL xs N)) j≤(900 : Nat) := hlb j (by rw [hWN]; exact hj)
    have h3 : (T : Int)≤Sim.lastOf (wkOf (wksL xs N)) j := h
    omega
  have w2 : g2[5]? = some (.lst ((wksL xs N).map it)) := k2 5 _ (by simp) b1.wkl
  have r2 : g2[6]? = some (.lst ((List.range N).map fun j => .str (wdAt xs p j))) := k2 6 _ (by simp) b1.wrl
  -- the checks
  have hlen5 : lenF [.ref 5] g1 = some (.int (N : Int),g1) := by
    have := lenL (g := g1) (a := 5) (zs := wksL xs N) b1.wkl (by rw [qy]; exact o395 hN hxl hNw hWN hTm)
    rw [hNw] at this; exact this
  have ne1 : neV g2 (.ref b) (.ref 6) = some false := by
    have hstr : (List.range N).map (fun j => V.str (wdAt xs p j)) = ((List.range N).map fun j => wdAt xs p j).map V.str := by rw [List.map_map]; rfl
    refine neLf (xs := (List.range N).map fun j => V.str (wdAt xs p j)) hb r2 ?_
    rw [hstr]; exact zlg _
  obtain ⟨j3,e3⟩ := zjj (n := 2000) (sa := sa) (nb := 3) (wr := 6) (a := a) (b := b) (bp := .bytes [p.1.toUInt8,p.2.toUInt8]) (x5 := some (.int (vn xs N))) (x6 := some (.str (txt xs p N))) (x7 := x7) (x12 := x12) (x13 := x13) (o396 hN hxl hNw hWN hTm) hNw (o397 hN hxl hNw hWN hTm) O Sm hT hTl w2 ha none none none none
  have w3 : (g2++j3)[5]? = some (.lst ((wksL xs N).map it)) := qw w2
  have a3 : (g2++j3)[a]? = some (.lst ((Sim.planL (pkF (wkOf (wksL xs N))) T).map .int)) := qw ha
  have t3 : (g2++j3)[0]? = some (.tab ls') := qw t2
  obtain ⟨j4,e4⟩ := late_run (n := 2000) (sa := sa) (nb := 3) (wr := 6) (a := a) (b := b) (bp := .bytes [p.1.toUInt8,p.2.toUInt8]) (x5 := some (.int (vn xs N))) (x6 := some (.str (txt xs p N))) (x7 := x7) (x12 := x12) (x13 := x13) (o396 hN hxl hNw hWN hTm) hNw (o398 hN hxl hNw hWN hTm) (o397 hN hxl hNw hWN hTm) O Sm hT hTl w3 a3 none none none none
  have w4 : (g2++j3++j4)[5]? = some (.lst ((wksL xs N).map it)) := qw w3
  have a4 : (g2++j3++j4)[a]? = some (.lst ((Sim.planL (pkF (wkOf (wksL xs N))) T).map .int)) := qw a3
  have t4 : (g2++j3++j4)[0]? = some (.tab ls') := qw t3
  generalize g2++j3++j4 = g4 at *
  obtain ⟨j5,e5⟩ := zk5 (n := 2000) (sa := sa) (nb := 3) (wr := 6) (a := a) (b := b) (bp := .bytes [p.1.toUInt8,p.2.toUInt8]) (x5 := some (.int (vn xs N))) (x6 := some (.str (txt xs p N))) (x7 := x7) (x12 := x12) (x13 := x13) (o396 hN hxl hNw hWN hTm) hn hNw (o397 hN hxl hNw hWN hTm) w4 none none none none
  have l5 : (g4++.lst (((List.range N).map fun k => Sim.lastOf (wkOf (wksL xs N)) k).map V.int) :: j5)[g4.length]? = some (.lst (((List.range N).map fun k => Sim.lastOf (wkOf (wksL xs N)) k).map V.int)) := jm _ _
  have w5 : (g4++.lst (((List.range N).map fun k => Sim.lastOf (wkOf (wksL xs N)) k).map V.int) :: j5)[5]? = some (.lst ((wksL xs N).map it)) := qw w4
  have a5 : (g4++.lst (((List.range N).map fun k => Sim.lastOf (wkOf (wksL xs N)) k).map V.int) :: j5)[a]? = some (.lst ((Sim.planL (pkF (wkOf (wksL xs N))) T).map .int)) := qw a4
  have t5 : (g4++.lst (((List.range N).map fun k => Sim.lastOf (wkOf (wksL xs N)) k).map V.int) :: j5)[0]? = some (.tab ls') := qw t4
  generalize hL9 : g4.length = L9 at *
  generalize g4++.lst (((List.range N).map fun k => Sim.lastOf (wkOf (wksL xs N)) k).map V.int) :: j5 = g5 at *
  obtain ⟨x11,x16,g6,e6,d6,k6⟩ := told_run (n := 2000) (G := g5++[LObj.lst []]) (td := g5.length) (sa := sa) (nb := 3) (wr := 6) (a := a) (b := b) (bp := .bytes [p.1.toUInt8,p.2.toUInt8]) (x5 := some (.int (vn xs N))) (x6 := some (.str (txt xs p N))) (x7 := x7) (x12 := x12) (x13 := x13) hn hNw (o398 hN hxl hNw hWN hTm) (o397 hN hxl hNw hWN hTm) O Sm hT9 hTl hTm (qw w5) (qw l5) (jm _ _) none
  have lt5 : ∀ {i : Nat} {o : LObj},g5[i]? = some o→i ∉ [g5.length] := fun h => by
    have := (List.getElem?_eq_some_iff.mp h).1
    simp; exact o399 hTm this
  have a6 : g6[a]? = some (.lst ((Sim.planL (pkF (wkOf (wksL xs N))) T).map .int)) := k6 _ _ (lt5 a5) (qw a5)
  have t6 : g6[0]? = some (.tab ls') := k6 _ _ (lt5 t5) (qw t5)
  have eq6 : eqV g6 (.ref a) (.ref g5.length) = some true := eqL a6 d6 (zgb _)
  have z0 : (0 : Nat)≤szL := Nat.zero_le _
  refine ⟨2000,⟨locF N sa 3 5 6 a b (.bytes [p.1.toUInt8,p.2.toUInt8]) (some (.int (vn xs N))) (some (.str (txt xs p N))) x7 x12 x13 (some (.ref L9)) (some (.ref g5.length)) x11 x16,g6⟩,ls',?_,t6⟩
  unfold zk4
  rw [e0]
  unfold zgf at e1
  rw [zq,e1]
  try dsimp? only [zj]
  dsimp? only [locB]
  rw [zq,qv]
  try dsimp? only [zj]
  dsimp? only [vt,jw,qn,zzs,zzz,j9,hlen5,j7,zts,ztz]
  rw [zq,zj2,vt]
  try dsimp? only [zj]
  dsimp? only [jw,j9,qn,zzs,zzz]
  rw [show kh 2000 c fr [.str (txt xs p N),.bytes [p.1.toUInt8,p.2.toUInt8]] g1 = some (.tup [.ref a,.ref b],g2) from e2]
  dsimp? only [zj3,zas,zcn,yy,zts,ztz]
  rw [zq,jz,orT_ap,jp]
  try dsimp? only [zj]
  dsimp? only [qn,zzs,zzz,ne1]
  simp only [locF] at e3 e4 e5 e6
  rw [e3]
  try dsimp? only [zj]
  rw [zq,jz,e4]
  try dsimp? only [zj]
  try dsimp? only [zj]
  rw [zq,qv,e5]
  try dsimp? only [zj]
  try dsimp? only [zts,ztz]
  rw [zq,qv]
  try dsimp? only [zj]
  dsimp? only [zen,j9,List.length_nil,z0,if_true,zts,ztz]
  unfold zkd at e6
  rw [zq,e6]
  try dsimp? only [zj]
  simp? only [eq6]
end Mine
end
end
end
section
set_option maxRecDepth 100000
set_option Elab.async false
set_option autoImplicit false
namespace Mine
open PySem PyProof.Rows PySem.W
theorem zkr (a : List WData) : PySem.Challenge.rw_oy0116_01.row.claim.post a (.bool true) a = true := by
  show (WShape.has [] (.bool true) .bool && (WTm.eq .res (.lit (.bool true))).holds [] { args := a,res := some (.bool true),after := a }) = true
  simp [WShape.has,WTm.holds,WTm.value,WShape.arms,same]
end Mine
open PySem PyProof.Rows PySem.W
set_option maxHeartbeats 8000000
theorem PySem.Challenge.cw_oy0116_01_holds : PySem.Challenge.rw_oy0116_01.Holds := by
  refine holds_law Mine.saidK fun said => ?_
  refine holds_open (d := ⟨_,_,(Mine.dpOf "law").body,_,_⟩) (q := Mine.viewK) (loose := Mine.looseK) (XP := XL Mine.viewK []) (YP := Hook.says (kmHook Mine.v9 Mine.idsK Mine.zew [196])) Mine.leftK (Hook.of (kmHook Mine.v9 Mine.idsK Mine.zew [196])) (Hook.keeps (kmHook Mine.v9 Mine.idsK Mine.zew [196])) (fun s e => xl_of s (Bool.and_eq_true_iff.mp e).1) XL.keeps (by rfl) (by rfl) (by rfl) (fun s e => recFacts_of (Bool.and_eq_true_iff.mp e).2) (by rfl) said (by decide +kernel) ⟨rfl,rfl,rfl,rfl,rfl,by decide +kernel⟩ ?hw ?hc
  case hw => w_witness2
  case hc =>
  clear said
  k_go0
  rename_i w10 s0 s1 mg mb G Y fa o pm cd doc ho hcd hg X V T B TE TW w9 hs hlay0 hL1 hr1 hl2 w8 w7 w6 w5 w4 hL ra w1 r0 hI hr hc1 hc2 hD h1 tk1 c4 c3 c2 c1 d4 d3 d2 d1 X0 X' T' K' F' N' l0
  obtain ⟨n,st',ls,hlaw,htab⟩ := Mine.law_true 59 42 w6 w9
  let C : Mine.Cx := { prog := PySem.Challenge.rw_oy0116_01.row.prog,w := w10,H0 := ghostOf s1.heap [(200,196)],mg := mg,mb := mb,g := T'.g,b := T'.b,boot := T'.builtins,nolimit := T'.nolimit,K := Mine.v9 w10.params,kin := X',pin := [(0,196)] }
  have H : Mine.Hd C := ⟨rfl⟩
  have hz : w9.length≤63 := by omega
  have hA : Mine.OkA 5 (callerA.deeper (envOfC "law" (Mine.dpOf "law").scope s1.heap.objs.size fa cd)) := ⟨rfl,by show callerA.depth + 1 + 5 < recursionLimit; decide,by show callerA.units + 3 + 8 * 5 < cLine; decide⟩
  have ce : ∀ {c : Nat} {ob : Obj} {v : Option Value},(s1.heap.objs.size + c,ob) ∈ _→ob.data = .cell v→∃ w,h1.IsCell (s1.heap.objs.size + c) w := fun hm hd => ⟨_,_,(N' _ hm).1,hd⟩
  have key := Mine.law_wp (C := C) H rfl T'.bmain codeHd hA (cd := cd) (fa := fa) (sa := w6) lifted hI hz (s := { heap := h1,gens := s1.gens,drawn := s1.drawn,toks := tk1,os := s1.os }) F'.keep F'.ns rfl F'.above
    (ce (c := 1) (by simp) d1) (ce (c := 2) (by simp) d2) (ce (c := 3) (by simp) d3) (ce (c := 4) (by simp) d4) (N' (196,tabObj #[]) (by simp)).1 (N' (196,tabObj #[]) (by simp)).2.2 l0 hlaw htab
  refine wpAny_mono key (fun f s' hp => ?_) fun _ _ e => e.elim
  obtain ⟨rfl,hk,hos,hge,ps,_,hps⟩ := hp
  exact ⟨⟨.inl ⟨.bool true,.bool true,[],rfl,fun _ => rfl,.bool true,Mine.zkr _,fun _ => ⟨List.nodup_nil,fun a ha => by cases ha⟩⟩,hk,hos,hge.trans hg⟩,⟨ps,hps⟩,trivial⟩
end
