import PyProof.Rows.All
import Wide.All
import Open.Line
import KE.KxPercentT
import KE.BytesMake
import KE.KRevIter
import KE.KxDecode
import KE.KBytesCut
import KE.KItem
import PySem.Challenge.RW_ik0060_01
set_option Elab.async false
set_option maxRecDepth 100000
set_option linter.all false
set_option tactic.hygienic false
set_option genInjectivity false
set_option genSizeOf false
set_option genSizeOfSpec false
namespace Mine
theorem tr {x a b : Nat} (h : x ≤ a) (e : Nat.ble a b = true) : x ≤ b := Nat.le_trans h (Nat.le_of_ble_eq_true e)
theorem trl {x a b : Nat} (h : x ≤ a) (e : Nat.ble (a + 1) b = true) : x < b := Nat.lt_of_le_of_lt h (Nat.le_of_ble_eq_true e)
theorem sub_sub1 {m a b c : Nat} (h : m - a = b + c) : m - (a + c) = b := by rw [← Nat.sub_sub, h, Nat.add_sub_cancel]
theorem halfp {x0 x1 : Nat} (h : x1 = 2 * x0 + 1 ∨ x1 = 2 * x0 + 2) : x0 = (x1 - 1) / 2 := h.elim (fun e => e ▸ (Nat.mul_add_div (Nat.succ_pos 1) x0 0).symm) fun e => e ▸ (Nat.mul_add_div (Nat.succ_pos 1) x0 1).symm
theorem minl {a b : Nat} (h : min a b = a) : a ≤ b := Nat.le_trans (Nat.le_of_eq h.symm) (Nat.min_le_right _ _)
theorem add_le {a b c : Nat} (h : a ≤ c) (k : b ≤ c - a) : a + b ≤ c := Nat.add_le_of_le_sub' h k
theorem lea {a b c : Nat} (h : a + b ≤ c) : a ≤ c := Nat.le_trans (Nat.le_add_right _ _) h
theorem stepb {x y z c d : Nat} (h : x + c * (z + 1) ≤ d) (k : y ≤ c) : x + y + c * z ≤ d := Nat.le_trans (by rw [Nat.add_right_comm, Nat.add_assoc]; exact Nat.add_le_add_left (Nat.add_le_add_left k _) x) h
theorem lt_two (x : Nat) : x < 2 * x + 1 := by rw [Nat.two_mul]; exact Nat.lt_succ_of_le (Nat.le_add_left _ _)
theorem lt5 {x k m : Nat} (h : x + 5 < m) (e : Nat.ble k 5 = true) : x + k < m := Nat.lt_of_le_of_lt (Nat.add_le_add_left (Nat.le_of_ble_eq_true e) x) h
theorem ar3 {x0 x1:Nat} : x1=x0 → x1<2 → x0≤16777216+1 := fun e h => tr (Nat.le_of_lt (Nat.lt_of_le_of_lt (Nat.le_of_eq e.symm) h)) rfl
theorem ar4 {x0 x1 x2 x3:Nat} : x2=x3 → x2<2 → x0≤x1 → x1<x3 → x0=x1 := fun e h k l => Nat.le_antisymm k (Nat.le_trans (Nat.le_of_lt_succ (Nat.lt_of_lt_of_le l (Nat.le_of_lt_succ (Nat.lt_of_le_of_lt (Nat.le_of_eq e.symm) h)))) (Nat.zero_le _))
theorem ar5 {x0:Nat} : x0<64 → x0≤16777216+1 := fun h => tr (Nat.le_of_lt h) rfl
theorem ar6 {x0 x1:Nat} : x0≤9000 → x1=9900 → x0+100<x1 := fun h e => by rw [e]; exact trl (Nat.add_le_add_right h 100) rfl
theorem ar9 {x0 x1:Nat} : x0≤9000 → x1=9900 → x0+1<x1 := fun h e => by rw [e]; exact trl (Nat.add_le_add_right h 1) rfl
theorem ar11 {x0 x1:Nat} : x0≤x1 → x1<1 → x0=x1 := by intros; simp_all +arith
theorem ar12 {x0 x1:Nat} : x0<x1 → x0≤x1-1 := fun h => Nat.le_sub_one_of_lt h
theorem ar13 {x0 x1:Nat} : x1<x0 → x0-1<x0 := fun h => Nat.sub_one_lt_of_lt h
theorem ar14 {x0 x1 x2:Nat} : x2≤x1 → x0<x2 → x0-1<x1 := fun h k => Nat.lt_of_le_of_lt (Nat.sub_le _ _) (Nat.lt_of_lt_of_le k h)
theorem ar15 {x0 x1 x2:Nat} : x2≤x1 → 0+x0-1-x1≤0+x0-1-x2 := fun h => Nat.sub_le_sub_left h (0 + x0 - 1)
theorem ar16 {x0 x1 x2:Nat} : x2<x0 → 0+x0-1-x1<x0 := fun h => Nat.lt_of_le_of_lt (Nat.sub_le _ _) (by rw [Nat.zero_add]; exact Nat.sub_one_lt_of_lt h)
theorem ar17 {x0 x1:Nat} : x1+1-(0+1)≤x0 → x0<x1+1 → x0=x1+1-1 := fun h h_1 => Nat.eq_of_le_of_lt_succ h h_1
theorem ar18 {x0 x1:Nat} : x1-(0+1)≤x0 → x0<x1 → x0=x1-1 := fun h k => Nat.le_antisymm (Nat.le_sub_one_of_lt k) h
theorem ar19 {x0 x1 x2:Nat} : x2≤x1 → x0<x2 → x0≤x1 := fun h k => Nat.le_of_lt (Nat.lt_of_lt_of_le k h)
theorem ar20 {x0 x1 x2:Nat} : x0+1-(x1+1+1)≤x2 → x0-(x1+1)≤x2 := fun h => Nat.le_trans (Nat.le_of_eq (Nat.succ_sub_succ x0 (x1 + 1)).symm) h
theorem ar21 {x0 x1 x2:Nat} : x1≤x0 → x2+1≤x1 → 0<x0 := fun h k => Nat.lt_of_lt_of_le (Nat.succ_pos _) (Nat.le_trans k h)
theorem ar22 {x0 x1 x2:Nat} : x2≤x1 → x0+1≤x2 → x0-1<x1 := fun h k => Nat.lt_of_le_of_lt (Nat.sub_le _ _) (Nat.lt_of_lt_of_le k h)
theorem ar23 {x0:Nat} : 1≤x0 → ¬x0>1 → x0=1 := fun h k => Nat.le_antisymm (Nat.le_of_not_lt k) h
theorem ar24 {x0 x1:Nat} : x0<x1 → x0≤(x0+x1)/2 := fun h => (Nat.le_div_iff_mul_le (Nat.succ_pos 1)).mpr (by rw [Nat.mul_two]; exact Nat.add_le_add_left (Nat.le_of_lt h) x0)
theorem ar25 {x0 x1:Nat} : x0<x1 → (x0+x1)/2<x1 := fun h => Nat.div_lt_of_lt_mul (by rw [Nat.two_mul]; exact Nat.add_lt_add_right h x1)
theorem ar26 {x0:Nat} : 2≤x0 → x0=x0-1+1 := fun h => (Nat.sub_add_cancel (Nat.le_of_succ_le h)).symm
theorem ar27 {x0 x1:Nat} : x1<64 → x1=x0+1 → x0+1<64 := fun h h_1 => lt_of_eq_of_lt (id (Eq.symm h_1)) h
theorem ar28 {x0 x1:Nat} : x0≤x1 → ¬x0<x1 → x0=x1 := fun h k => Nat.le_antisymm h (Nat.le_of_not_lt k)
theorem ar29 {x0 x1 x2:Nat} : x2≤min x0 x1 → x1≤x2 → ¬x0<x1 := fun h k => Nat.not_lt.mpr (Nat.le_trans k (Nat.le_trans h (Nat.min_le_left _ _)))
theorem ar30 {x0 x1 x2:Nat} : x0≤x2 → ¬x1≤x2 → x0<x1 := fun h k => Nat.lt_of_le_of_lt h (Nat.lt_of_not_le k)
theorem ar31 {x0 x1 x2:Nat} : min x2 x0-x1=0 → ¬x2≤x1 → x0≤x1 := by omega
theorem ar32 {x0 x1 x2:Nat} : ¬x0≤x2 → x1≤x2 → ¬x0<x1 := fun h k l => h (Nat.le_of_lt (Nat.lt_of_lt_of_le l k))
theorem ar33 {x0 x1 x2 x3:Nat} : min x1 x2-x0=x3+1 → x0<x1 := fun h => Nat.lt_of_lt_of_le (Nat.lt_of_sub_eq_succ h) (Nat.min_le_left _ _)
theorem ar34 {x0 x1 x2 x3:Nat} : min x2 x1-x0=x3+1 → x0<x1 := fun h => Nat.lt_of_lt_of_le (Nat.lt_of_sub_eq_succ h) (Nat.min_le_right _ _)
theorem ar35 {x0 x1 x2 x3:Nat} : min x0 x1-x2=x3+1 → min x0 x1-(x2+1)=x3 := sub_sub1
theorem ar36 {x0 x1 x2:Nat} : x0<x1 → x0<x2 → x0+1≤min x1 x2 := fun h h_1 => Nat.le_min_of_le_of_le h h_1
theorem ar37 {x0 x1 x2:Nat} : min x1 x0=x2 → min x0 x1-0=x2 := fun h => (Nat.min_comm _ _).trans h
theorem ar38 {x0 x1:Nat} : x0+5<x1 → x0<x1 := fun h => Nat.lt_of_add_right_lt h
theorem ar39 {x0 x1:Nat} : x0+5<x1 → x0+1+1<x1 := fun h => lt5 (k := 2) h rfl
theorem ar40 {x0 x1:Nat} : x0+5<x1 → x0+1+0<x1 := fun h => lt5 (k := 1) h rfl
theorem ar41 {x0 x1 x2:Nat} : x2=0+1+1+1+1 → x0+1+1+1+1<x2 → ¬x0+1+1+1+1<x1 := fun e h => (Nat.not_lt.mpr (Nat.le_add_left 4 x0) (by rw [e] at h; exact h)).elim
theorem ar42 {x0 x1:Nat} : x0+5<x1 → x0+1<x1 := fun h => lt5 (k := 1) h rfl
theorem ar43 {x0:Nat} : ¬(x0:Int)+(1:Int)=(0:Int) := not_eq_of_beq_eq_false rfl
theorem ar44 {x0:Nat} : x0≤16777216 → x0≤1099511627776 := fun h => Nat.le_trans h (by decide)
theorem ar45 {x0 x1:Nat} : x1≤100 → x0≤9000 → x0+1+x1<9900 := fun h k => trl (Nat.add_le_add (Nat.add_le_add_right k 1) h) rfl
theorem ar46 {x0 x1 x2:Nat} : x1+1≤100 → x2=9900 → x0≤9000 → x0+x1+1<x2 := fun h e k => by rw [e]; exact trl (show x0 + x1 + 1 ≤ 9100 from Nat.add_le_add k h) rfl
theorem ar47 {x0 x1:Nat} : x1=9900 → x0≤9000 → x0+5<x1 := fun e h => by rw [e]; exact trl (Nat.add_le_add_right h 5) rfl
theorem ar48 {x0:Int} {x1:Nat} : Int.toNat x0<x1 → x0<(x1:Int) := fun h => Int.lt_of_toNat_lt h
theorem ar49 {x0 x1 x2 x3:Nat} : x2≤x3 → min (x0-x1) (x2-x1)≤x3 := fun h => Nat.le_trans (Nat.min_le_right _ _) (Nat.le_trans (Nat.sub_le _ _) h)
theorem ar52 {x0 x1 x2 x3:Nat} : x2≤x1 → x3=x2 → x0≤x3 → x0≤x1 := fun h e k => Nat.le_trans k (Nat.le_trans (Nat.le_of_eq e) h)
theorem ar53 {x0:Nat} {x1:Int} : x0-Int.toNat x1≤Int.toNat ((x0:Int)-x1) := by cases x1 with | ofNat n => exact Nat.le_of_eq (Int.toNat_sub x0 n).symm | negSucc n => exact Nat.le_add_right x0 (n + 1)
theorem ar54 {x0:Int} : (0:Int)≤x0 → ((Int.toNat x0:Nat):Int)=x0 := fun h => Int.toNat_of_nonneg h
theorem ar55 {x0:Int} {x1:Nat} : min (Int.toNat x0) x1≤x1 := Nat.min_le_right x0.toNat x1
theorem ar56 {x0:Int} {x1:Nat} : x0≤(x1:Int) → Int.toNat x0≤x1 := fun h => Int.toNat_le.mpr h
theorem ar57 {x0 x1:Int} : x0≤x1 → Int.toNat x0≤Int.toNat x1 := fun h => Int.toNat_le_toNat h
theorem ar58 {x0 x1:Int} : (0:Int)≤x1 → x1≤x0 → ((Int.toNat x0:Nat):Int)=x0 := fun h k => Int.toNat_of_nonneg (Int.le_trans h k)
theorem ar59 {x0 x1:Int} : (0:Int)≤x1 → Int.toNat x0-Int.toNat x1=Int.toNat (x0-x1) := fun h => by rw [← Int.toNat_sub', Int.toNat_of_nonneg h]
theorem ar60 {x0:Int} : (0:Int)<x0 → ¬x0=(0:Int) := fun h => Int.ne_of_gt h
theorem ar61 {x0 x1 x2:Nat} : x1≤1000 → x0≤x2 → x2=x1 → x0≤1000 := fun h k e => Nat.le_trans k (Nat.le_trans (Nat.le_of_eq e) h)
theorem ar62 {x0:Int} : x0<(0:Int) → (-x0)=((Int.natAbs x0:Nat):Int) := fun h => (Int.ofNat_natAbs_of_nonpos (Int.le_of_lt h)).symm
theorem ar63 {x0:Int} : ¬x0<(0:Int) → x0=((Int.natAbs x0:Nat):Int) := fun h => (Int.natAbs_of_nonneg (Int.not_lt.mp h)).symm
theorem ar64 {x0 x1:Int} : x1<x0 → min x0 x1=x1 := fun h => Int.min_eq_right (Int.le_of_lt h)
theorem ar65 {x0 x1:Int} : ¬x1<x0 → min x0 x1=x0 := fun h => Int.min_eq_left (Int.not_lt.mp h)
theorem ar66 {x0 x1:Nat} : x1≤x0 → x0=x1+(x0-x1) := fun h => Eq.symm (Nat.add_sub_of_le h)
theorem ar67 {x0:Nat} : x0≤10 → x0≤16777216 := fun h => Nat.le_trans h (by decide)
theorem ar68 {x0 x1:Nat} : x0=min x0 x1 → x0≤x1 := fun h => minl h.symm
theorem ar69 {x0 x1:Nat} : x0-(x0-x1)≤x1 := Nat.sub_le_iff_le_add.mpr (Nat.sub_le_iff_le_add'.mp (Nat.le_refl _))
theorem ar70 {x0 x1:Nat} : x0=x1-(x1-x0) → x0≤x1 := fun h => Nat.le_trans (Nat.le_of_eq h) (Nat.sub_le _ _)
theorem ar71 {x0 x1 x2:Nat} : x1+x2=x0 → x0-x1=x2 := fun h => Eq.symm (Nat.eq_sub_of_add_eq' h)
theorem ar72 {x0:Nat} : x0≤1000000 → x0≤16777216 := fun h => Nat.le_trans h (by decide)
theorem ar73 {x0 x1:Nat} : x1<1000000 → x0=x1 → x0≤1000000 := fun h e => Nat.le_of_lt (Nat.lt_of_le_of_lt (Nat.le_of_eq e) h)
theorem ar74 {x0:Nat} : x0<1000000 → x0+1≤16777216 := fun h => Nat.le_trans h (by decide)
theorem ar75 {x0 x1:Nat} : x0=x1 → 0<x1 → x0-1<x0 := fun e h => Nat.sub_one_lt_of_lt (e ▸ h)
theorem ar76 {x0:Nat} : x0≤x0-1+1 := Nat.sub_le_iff_le_add.mp (Nat.le_refl _)
theorem ar77 {x0 x1:Nat} : x0≤x1 → x0≤x1+1 := fun h => Nat.le_add_right_of_le h
theorem ar80 {x0 x1 x2:Nat} : x1≤1000000 → x2≤x1+1 → x0=x2 → x0≤16777216 := fun h k e => tr (Nat.le_trans (Nat.le_of_eq e) (Nat.le_trans k (Nat.succ_le_succ h))) rfl
theorem ar81 {x0 x1:Nat} : x1≤1000000 → x0≤x1 → x0≤16777216 := fun h k => tr (Nat.le_trans k h) rfl
theorem ar82 {x0 x1:Nat} : x1≤1000000 → x0≤x1+1 → x0≤16777216 := fun h k => tr (Nat.le_trans k (Nat.succ_le_succ h)) rfl
theorem ar83 {x0 x1 x2:Nat} : x0+x1*x2≤1000000 → ¬x0+x1*x2>16777216 := fun h => Nat.not_lt.mpr (tr h rfl)
theorem ar84 {x0 x1 x2 x3:Nat} : x1+x2*x3≤1000000 → x0≤x1+x2*x3 → x0≤16777216 := fun h k => tr (Nat.le_trans k h) rfl
theorem ar85 {x0 x1 x2:Nat} : x0<x1+1+x2 → x0<x1+(x2+1) := fun h => Nat.lt_of_lt_of_eq h (Nat.succ_add x1 x2)
theorem ar86 {x0 x1 x2:Nat} : x2≤1000000 → x0<0+x2 → ¬min x0 x1>16777216 := fun h k => Nat.not_lt.mpr (tr (Nat.le_trans (Nat.min_le_left _ _) (Nat.le_trans (Nat.le_of_lt k) (by rw [Nat.zero_add]; exact h))) rfl)
theorem ar87 {x0 x1:Nat} : x0<0+x1 → ¬x0≥x1 := by intros; simp_all +arith
theorem ar88 {x0 x1:Nat} : x0<0+x1 → x0<x1 := by intros; simp_all +arith
theorem ar89 {x0:Nat} : x0≤999999 → x0+1≤16777216 := fun h => Nat.lt_of_le_of_lt h (by decide)
theorem ar90 {x0 x1:Nat} : ¬x1<x0 → x0≤x1 := fun h => Nat.le_of_not_lt h
theorem ar91 {x0 x1:Nat} : x0-x1<1 → x0-x1=0 := fun h => Nat.lt_one_iff.mp h
theorem ar92 {x0:Int} : (0:Int)<x0 → x0≠(0:Int) := fun h => Ne.symm (Int.ne_of_lt h)
theorem ar93 {x0:Int} : (0:Int)<x0 → x0<(1073741824:Int) → Int.natAbs x0<1073741824 := fun h k => by cases x0 with | ofNat n => exact Int.ofNat_lt.mp k | negSucc n => exact absurd (Int.lt_trans h (Int.negSucc_lt_zero n)) (Int.lt_irrefl _)
theorem ar94 {x0:Int} : (0:Int)<x0 → (0:Int)≤x0 := fun h => Int.le_of_lt h
theorem ar95 {x0:Int} : (0:Int)≤x0 → x0<(1:Int) → x0=(0:Int) := fun h k => Int.le_antisymm (Int.le_of_lt_add_one k) h
theorem ar96 {x0 x1 x2:Nat} : x2=x1 → x0<x2 → x0<x1 := fun h h_1 => Nat.lt_of_lt_of_eq h_1 h
theorem ar97 {x0 x1 x2:Nat} : x2=x0 → ¬x1<x2 → x0≤x1 := by intros; simp_all +arith
theorem ar98 {x0 x1 x2:Nat} : x0+x2+1<x1 → x0<x1 := fun h => Nat.lt_of_le_of_lt (Nat.le_add_right x0 (x2 + 1)) h
theorem ar99 {x0 x1 x2:Nat} : x0+x1+1<x2 → x0+1+x1<x2 := by intros; simp only [Nat.add_assoc, Nat.add_comm, Nat.add_left_comm, Nat.zero_add, Nat.add_zero]; first | done | assumption
theorem ar100 {x0 x1 x2 x3:Nat} : x2=x0 → x3=x1 → x2=x3 → x0=x1 := by intros; subst_vars; first | rfl | assumption | exact Nat.lt_irrefl _ | omega
theorem ar101 {x0 x1 x2:Nat} : x0=x1 → ¬x0=x2 → x2=x1 → False := by intros; simp_all +arith
theorem ar102 {x0 x1 x2 x3 x4:Nat} : x0=x2 → x1=x3 → x4=x2 → x4=x3 → min x0 x1=x2 := by intros; simp_all +arith
theorem ar103 {x0 x1 x2:Nat} : x2=x0 → x2=x1 → x0=x1 := by intros; subst_vars; first | rfl | assumption | exact Nat.lt_irrefl _ | omega
theorem ar104 {x0 x1 x2 x3 x4:Nat} : x0=x2 → x1=x3 → x4=x2 → x4=x3 → x0=x1 := by intros; subst_vars; first | rfl | assumption | exact Nat.lt_irrefl _ | omega
theorem ar105 {x0 x1 x2 x3 x4:Nat} : x0+x3<x2 → x3=max x1 x4 → x0+x1<x2 := fun h e => Nat.lt_of_le_of_lt (Nat.add_le_add_left (e ▸ Nat.le_max_left _ _) _) h
theorem ar106 {x0 x1 x2 x3 x4:Nat} : x0+x3<x2 → x3=max x4 x1 → x0+x1<x2 := fun h e => Nat.lt_of_le_of_lt (Nat.add_le_add_left (e ▸ Nat.le_max_right _ _) _) h
theorem ar108 {x0:Nat} : x0≤1000000 → x0>16777216 → False := fun h k => Nat.not_lt.mpr (tr h rfl) k
theorem ar109 {x0:Int} : (0:Int)≤x0 ∧ x0<(1000000000:Int) → ((Int.natAbs x0:Nat):Int)=x0 := fun h => Int.natAbs_of_nonneg h.1
theorem ar110 {x0:Int} : (0:Int)≤x0 ∧ x0<(1000000000:Int) → ¬x0<(0:Int) := fun h => Int.not_lt.mpr h.1
theorem ar111 {x0:Nat} : x0≤10 → 0+9+x0≤1000000 := fun a => tr (Nat.add_le_add_left a (0 + 9)) rfl
theorem ar112 {x0:Nat} : x0≤10 → 0+9+x0+30≤1000000 := fun a => tr (Nat.add_le_add_right (Nat.add_le_add_left a (0 + 9)) 30) rfl
theorem ar113 {x0 x1:Nat} : x0≤10 → x1≤10 → 0+9+x0+30+x1≤1000000 := fun a b => tr (Nat.add_le_add (Nat.add_le_add_right (Nat.add_le_add_left a (0 + 9)) 30) b) rfl
theorem ar114 {x0 x1:Nat} : x0≤10 → x1≤10 → 0+9+x0+30+x1+7≤1000000 := fun a b => tr (Nat.add_le_add_right (Nat.add_le_add (Nat.add_le_add_right (Nat.add_le_add_left a (0 + 9)) 30) b) 7) rfl
theorem ar115 {x0 x1:Nat} : x0≤10 → x1≤10 → 9+x0+30+x1+7≤16777216 := fun a b => tr (Nat.add_le_add_right (Nat.add_le_add (Nat.add_le_add_right (Nat.add_le_add_left a 9) 30) b) 7) rfl
theorem ar116 {x0 x1 x2 x3 x4:Nat} : x1≤1000000 → x1=x2+x3 → x4=x2 → x0≤x4 → x0≤1000000 := fun h e f k => Nat.le_trans k (Nat.le_trans (Nat.le_of_eq f) (lea (Nat.le_trans (Nat.le_of_eq e.symm) h)))
theorem ar117 {x0 x1:Nat} : x1=x0+0 → x0=x1 := by intros; subst_vars; first | rfl | assumption | exact Nat.lt_irrefl _ | omega
theorem ar118 {x0 x1 x2:Nat} : x1=x0+(x2+1) → x0<x1 := fun h => Nat.lt_of_lt_of_eq (Nat.lt_add_of_pos_right (Nat.succ_pos _)) h.symm
theorem ar119 {x0 x1 x2:Nat} : x0=x1+(x2+1) → x0=x1+1+x2 := fun h => h.trans (Nat.succ_add x1 x2).symm
theorem ar120 {x0 x1:Nat} : x1+1≤x0 → x0-x1=x0-(x1+1)+1 := fun h => (Nat.sub_add_cancel (Nat.le_sub_of_add_le' h)).symm
theorem ar121 {x0:Nat} : x0<20 → x0<30 := fun h => Nat.le_trans h (by decide)
theorem ar122 {x0 x1:Nat} : x0+8*(x1+1)≤9000 → x0+8*x1≤9000 := fun h => stepb (y := 0) h (Nat.zero_le _)
theorem ar123 {x0:Int} : x0-(0:Int)=x0 := Int.sub_zero x0
theorem ar124 {x0:Int} : (0:Int)≤x0 → ¬(0:Int)<x0 → (0:Int)=x0 := fun h k => Int.le_antisymm h (Int.not_lt.mp k)
theorem ar125 {x0:Int} : (0:Int)≤x0 → ((Int.toNat x0:Nat):Int)-(0:Int)=x0 := fun h => (Int.sub_zero _).trans (Int.toNat_of_nonneg h)
theorem ar126 {x0:Nat} : x0≤1000000 → (x0:Int)<(9223372036854775808:Int) := fun h => Int.ofNat_lt.mpr (trl h rfl)
theorem ar127 {x0:Nat} : (x0:Int)-(0:Int)=(x0:Int) := Int.sub_zero ↑x0
theorem ar128 {x0:Nat} : ¬(0:Int)<(x0:Int) → (0:Int)=(x0:Int) := by intros; simp_all +arith
theorem ar130 {x0 x1:Nat} : x1<x0 → x0-1-x1<x0 := fun h => Nat.sub_one_sub_lt_of_lt h
theorem ar131 {x0 x1:Nat} : x1<x0 → (x0:Int)-(1:Int)+(x1:Int)*(-(1:Int))=((x0-1-x1:Nat):Int) := by omega
theorem ar132 {x0:Nat} : x0≤3 → x0+1≤12 := fun h => Nat.lt_of_le_of_lt h (by decide)
theorem ar133 {x0 x1:Nat} : x0≤3 → x1≤3 → x0+1+x1+1≤12 := fun a b => tr (Nat.add_le_add_right (Nat.add_le_add (Nat.add_le_add_right a 1) b) 1) rfl
theorem ar134 {x0 x1 x2:Nat} : x0≤3 → x1≤3 → x2≤3 → x0+1+(x1+1+x2)+1≤12 := fun a b c => tr (Nat.add_le_add_right (Nat.add_le_add (Nat.add_le_add_right a 1) (Nat.add_le_add (Nat.add_le_add_right b 1) c)) 1) rfl
theorem ar135 {x0 x1 x2:Nat} : x1+x2+1≤x0+1 → ¬x0<x1 := fun h => Nat.not_lt.mpr (lea (Nat.le_of_succ_le_succ h))
theorem ar136 {x0 x1 x2:Nat} : x2+x0+1≤x1+1 → x0≤x1-x2 := fun h => Nat.le_sub_of_add_le' (Nat.le_of_succ_le_succ h)
theorem ar137 {x0 x1:Nat} : x1+3≤x0 → x0=x0-3+3 := fun h => (Nat.sub_add_cancel (Nat.le_trans (Nat.le_add_left _ _) h)).symm
theorem ar138 {x0 x1:Nat} : x0+3≤x1+3 → x0≤x1 := fun h => Nat.add_le_add_iff_right.mp h
theorem ar139 {x0 x1:Nat} : x1=2*x0+1 ∨ x1=2*x0+2 → x0<x1 := fun h => h.elim (fun e => e ▸ lt_two x0) fun e => e ▸ Nat.lt_succ_of_lt (lt_two x0)
theorem ar140 {x0 x1 x2:Nat} : x2=2*x0+1 ∨ x2=2*x0+2 → x2=2*x1+1 ∨ x2=2*x1+2 → x0=x1 := fun h k => (halfp h).trans (halfp k).symm
theorem ar141 {x0 x1:Nat} : x1=2*x0+1 ∨ x1=2*x0+2 → x0=(x1-1)/2 := halfp
theorem ar142 {x0:Nat} : ¬x0=0 → x0=2*((x0-1)/2)+1 ∨ x0=2*((x0-1)/2)+2 := fun h => by cases x0 with | zero => exact absurd rfl h | succ n => exact (Nat.mod_two_eq_zero_or_one n).imp (fun e => congrArg Nat.succ ((Nat.div_add_mod n 2).symm.trans (congrArg _ e))) fun e => congrArg Nat.succ ((Nat.div_add_mod n 2).symm.trans (congrArg _ e))
theorem ar143 {x0 x1:Nat} : x0<x1 → (x0-1)/2<x1 := fun h => Nat.lt_of_le_of_lt (Nat.le_trans (Nat.div_le_self _ _) (Nat.sub_le _ _)) h
theorem ar144 {x0:Nat} : ¬x0=0 → (x0-1)/2<x0 := fun h => Nat.lt_of_le_of_lt (Nat.div_le_self _ _) (Nat.sub_one_lt h)
theorem ar145 {x0:Nat} : 3<0+1+1+1+1+1+x0 := by lia
theorem ar146 {x0:Nat} : x0=6 → 1<x0 := by intros; simp_all +arith
theorem ar147 {x0 x1:Nat} : x0+(x1+1)≤900 → x0+1+x1≤900 := by intros; simp only [Nat.add_assoc, Nat.add_comm, Nat.add_left_comm, Nat.zero_add, Nat.add_zero]; first | done | assumption
theorem ar148 {x0 x1:Nat} : x0+8*(x1+1)≤9000 → x0+3+8*x1≤9000 := fun h => stepb h (Nat.le_of_ble_eq_true rfl)
theorem ar149 {x0 x1:Nat} : x0+(x1+1)≤900 → x0<1000 := fun h => trl (lea h) rfl
theorem ar150 {x0 x1 x2:Nat} : min (min x0 (x1+x2)-x1) (x0-x1)=min x2 (x0-x1) := by rw [← Nat.sub_min_sub_right, Nat.add_sub_cancel_left, Nat.min_comm (x0 - x1), Nat.min_assoc, Nat.min_self]
theorem ar151 {x0 x1:Nat} {x2:Int} : (0:Int)≤x2 → min (x0:Int) ((x1:Int)+x2)=((min x0 (x1+Int.toNat x2):Nat):Int) := fun h => by cases x2 with | ofNat n => exact (Nat.le_total x0 (x1 + n)).elim (fun q => (Int.min_eq_left (Int.ofNat_le.mpr q)).trans (congrArg Int.ofNat (Nat.min_eq_left q).symm)) fun q => (Int.min_eq_right (Int.ofNat_le.mpr q)).trans (congrArg Int.ofNat (Nat.min_eq_right q).symm) | negSucc n => exact absurd h (Int.not_le.mpr (Int.negSucc_lt_zero n))
theorem ar152 {x0 x1:Nat} {x2:Int} : x0≤x1 → min (x1:Int) ((x0:Int)+x2)=((min x1 (x0+Int.toNat x2):Nat):Int) → (x0:Int)≤min (x1:Int) ((x0:Int)+x2) := fun h k => by rw [k]; exact Int.ofNat_le.mpr (Nat.le_min.mpr ⟨h, Nat.le_add_right _ _⟩)
theorem ar153 {x0 x1:Nat} {x2:Int} : min (x0:Int) ((x1:Int)+x2)≤(x0:Int) := Int.min_le_left (↑x0) (↑x1 + x2)
theorem ar154 {x0 x1:Nat} {x2:Int} : Int.toNat (((min x0 (x1+Int.toNat x2):Nat):Int)-(x1:Int))=min x0 (x1+Int.toNat x2)-x1 := Int.toNat_sub _ _
theorem ar155 {x0:Nat} : 2≤x0 → x0=x0-2+2 := fun h => (Nat.sub_eq_iff_eq_add h).mp rfl
theorem ar156 {x0 x1:Nat} : x0<x1 → (0:Int)≤(x0:Int)+(1:Int) ∧ (x0:Int)+(1:Int)≤(x1:Int) := fun h => ⟨Int.natCast_nonneg (x0 + 1), Int.ofNat_le.mpr h⟩
theorem ar157 {x0:Int} {x1:Nat} : x1≤1000 → min (Int.toNat (x0+(1:Int))) x1≤16777216 := fun h => tr (Nat.le_trans (Nat.min_le_right _ _) h) rfl
theorem ar159 {x0 x1:Nat} : x0≤1000 → x1≤1000 → x0+x1≤16777216 := fun a b => tr (Nat.add_le_add a b) rfl
theorem ar160 {x0:Nat} : x0≤1000 → 1+x0≤16777216 := fun h => tr (Nat.add_le_add_left h 1) rfl
theorem ar161 {x0 x1:Nat} : x0≤1000 → x1≤1000 → x0+(1+x1)≤16777216 := fun a b => tr (Nat.add_le_add a (Nat.add_le_add_left b 1)) rfl
theorem ar162 {x0 x1:Nat} : x1<x0 → min x0 (x1+1)=x1+1 := fun h => Nat.min_eq_right h
theorem ar163 {x0 x1:Nat} : x0≤x1 → x1≤x0 → min x0 (x1+1)=x1 := fun h k => (Nat.min_eq_left (Nat.le_succ_of_le h)).trans (Nat.le_antisymm h k)
theorem ar164 {x0 x1 x2:Nat} : x1<x0 → min x2 (x0-(x1+1))=x2 → min x0 (x1+1+x2)=x1+1+x2 := fun h k => Nat.min_eq_right (add_le h (minl k))
theorem ar165 {x0 x1 x2:Nat} : min x2 (x0-(x1+1))≠x2 → min x0 (x1+1+x2)=x0 := fun h => Nat.min_eq_left (Nat.sub_le_iff_le_add'.mp (Nat.le_of_lt (Nat.lt_of_not_le fun q => h (Nat.min_eq_left q))))
theorem ar166 {x0 x1:Nat} : x1=x0+1 → x1≤3 → x0≤3 := fun e h => Nat.le_trans (Nat.le_trans (Nat.le_succ _) (Nat.le_of_eq e.symm)) h
theorem ar167 {x0:Nat} : x0≤12 → x0≤1000 := fun h => Nat.le_trans h (by decide)
theorem ar168 {x0:Nat} : x0≤3 → x0<256 := fun h => Nat.lt_of_le_of_lt h (by decide)
theorem ar169 {x0 x1:Nat} : min x0 x1=x0 → x0≤x1 := minl
theorem ar170 {x0 x1:Nat} : x0+x1≤3 → x0≤3 := fun h => Nat.le_of_add_right_le h
theorem ar171 {x0:Nat} : x0≤3 → x0≤1000 := fun h => Nat.le_trans h (by decide)
theorem ar172 {x0 x1:Nat} : x0≤x1 → min x0 x1=x0 := fun h => Nat.min_eq_left h
theorem ar173 {x0 x1 x2:Nat} : x0<x2 → min x1 (x2-(x0+1))=x1 → x0+1+x1≤x2 := fun h k => add_le h (minl k)
theorem ar174 {x0 x1:Nat} : min x1 x0≠x1 → x0<x1 := fun h => Nat.lt_of_not_le fun q => h (Nat.min_eq_left q)
theorem ar175 {x0 x1:Nat} : x0≤3 → x0-x1<256 := fun h => trl (Nat.le_trans (Nat.sub_le _ _) h) rfl
theorem ar176 {x0 x1:Nat} : x0≤3 → ((x0-x1:Nat):Int)≤(1000000:Int) := fun h => Int.ofNat_le.mpr (tr (Nat.le_trans (Nat.sub_le _ _) h) rfl)
theorem ar177 {x0 x1:Nat} : x1≤x0 → x0-(x0-x1)=x1 := fun h => Nat.sub_sub_self h
theorem ar178 {x0 x1:Nat} : x0+1+1+1+x1=x0+(x1+3) := by intros; simp_all +arith
theorem ar179 {x0 x1 x2 x3:Nat} : x2-x0=x1+x3 → x0≤x2 → x0+x1≤x2 := fun h k => add_le k (h ▸ Nat.le_add_right _ _)
theorem ar180 {x0:Nat} : x0≤12 → x0≤1000000 := fun h => Nat.le_trans h (by decide)
theorem ar181 {x0 x1:Nat} : x1<x0 → x0-(x1+1)<x0-x1 := fun h => Nat.sub_succ_lt_self x0 x1 h
theorem ar182 {x0 x1:Nat} : x1≤1000 → x0<x1 → (x0:Int)≤(16777216:Int) := fun h k => Int.ofNat_le.mpr (Nat.le_of_lt (Nat.lt_of_lt_of_le k (tr h rfl)))
theorem ar183 {x0 x1 x2:Nat} : x0≤3 → x1≤3*x2 → x0+x1≤3*(x2+1) := fun k h => Nat.le_trans (Nat.add_le_add k h) (Nat.le_of_eq (Nat.add_comm _ _))
theorem ar184 {x0:Nat} : x0≤4 → x0≤1000000 := fun h => Nat.le_trans h (by decide)
theorem ar185 {x0:Nat} : x0+1≤12 → 1+x0≤16777216 := fun h => tr (Nat.le_trans (Nat.le_of_eq (Nat.add_comm _ _)) h) rfl
theorem ar186 {x0 x1:Nat} : x1=(x0-1)/2 → x1<x0 → ((x0:Int)-(1:Int))/(2:Int)=(x1:Int) := fun h k => by cases x0 with | zero => exact absurd k (Nat.not_lt_zero _) | succ n => rw [h]; exact congrArg (fun z : Int => z / 2) (Int.add_sub_cancel (n : Int) 1)
theorem ar187 {x0 x1:Nat} : ((x0:Int)-(1:Int))/(2:Int)=(x1:Int) → (0:Int)≤(x0:Int)-(1:Int) := fun h => by cases x0 with | zero => exact Int.noConfusion (show Int.negSucc 0 = Int.ofNat x1 from h) | succ n => exact Int.sub_nonneg_of_le (Int.ofNat_le.mpr (Nat.succ_le_succ (Nat.zero_le n)))
theorem ar188 {x0 x1 x2:Nat} : x1=x2 → 2*x0+1<x2 → 2*x0+1<x1 := by intros; subst_vars; first | rfl | assumption | exact Nat.lt_irrefl _ | omega
theorem ar189 {x0 x1 x2:Nat} : x1=x2 → 2*x0+1+1<x2 → 2*x0+1+1<x1 := by intros; subst_vars; first | rfl | assumption | exact Nat.lt_irrefl _ | omega
theorem ar191 {x0 x1:Nat} : x1≤1000 → 2*x0+1+1<x1 → 2*x0+1+1<1000000 := fun h k => Nat.lt_of_lt_of_le k (tr h rfl)
theorem ar192 {x0 x1:Nat} : x1≤1000 → 2*x0+1+1<x1 → 2*x0+1<1000000 := fun h k => Nat.lt_trans (Nat.lt_succ_self _) (Nat.lt_of_lt_of_le k (tr h rfl))
theorem ar193 {x0 x1:Nat} : x1≤1000 → 2*x0+1<x1 → 2*x0+1<1000000 := fun h k => Nat.lt_of_lt_of_le k (tr h rfl)
theorem ar194 {x0 x1 x2 x3:Nat} : x1=x2 → ¬2*x3+1+1<x2 → x0=2*x3+1+1 → ¬x0<x1 := by intros; subst_vars; first | rfl | assumption | exact Nat.lt_irrefl _ | omega
theorem ar195 {x0 x1 x2 x3:Nat} : x2=x3 → ¬2*x1+1<x3 → x0<x2 → x0=2*x1+2 → x0=2*x1+1 := fun e n h q => (n (Nat.lt_trans (Nat.lt_succ_self (2 * x1 + 1)) (Nat.lt_of_lt_of_eq (Nat.lt_of_le_of_lt (Nat.le_of_eq q.symm) h) e))).elim
theorem ar196 {x0:Nat} : x0≤1000 → ((x0/2:Nat):Int)≤(1000000:Int) := fun h => Int.ofNat_le.mpr (tr (Nat.le_trans (Nat.div_le_self _ _) h) rfl)
theorem ar197 {x0 x1 x2:Nat} : x0≤3 → x1≤4*x2 → x0+x1+1≤4*(x2+1) := fun h k => Nat.le_trans (by rw [Nat.add_right_comm]; exact Nat.add_le_add (Nat.succ_le_succ h) k) (Nat.le_of_eq (Nat.add_comm _ _))
theorem ar198 {x0 x1:Nat} : x0+4*(x1+1)≤1000000 → x0+1≤16777216 := fun h => tr (Nat.succ_le_succ (lea h)) rfl
theorem ar199 {x0:Nat} : x0≤3 → x0≤1000000 := fun h => Nat.le_trans h (by decide)
theorem ar200 {x0 x1 x2:Nat} : x1≤3 → x0+4*(x2+1)≤1000000 → x0+1+x1≤16777216 := fun k h => tr (Nat.add_le_add (Nat.add_le_add_right (lea h) 1) k) rfl
theorem ar201 {x0 x1 x2:Nat} : x1≤3 → x0+4*(x2+1)≤1000000 → x0+(x1+1)+4*x2≤1000000 := fun k h => stepb h (Nat.succ_le_succ k)
theorem ar202 {x0 x1 x2:Nat} : x0≤4*(x1-x2) → x1≤3 → x0+3≤15 := fun h k => Nat.add_le_add_right (Nat.le_trans h (Nat.mul_le_mul_left 4 (Nat.le_trans (Nat.sub_le _ _) k))) 3
theorem ar203 {x0 x1:Nat} : x0+20*(x1+1)≤100000 → x0+3≤16777216 := fun h => tr (Nat.add_le_add_right (lea h) 3) rfl
theorem ar204 {x0 x1:Nat} : x0≤x1 → x1≤3 → (x0:Int)≤(16777216:Int) := fun h k => Int.ofNat_le.mpr (tr (Nat.le_trans h k) rfl)
theorem ar205 {x0 x1 x2 x3:Nat} : x0+20*(x3+1)≤100000 → x1≤3 → x0+3+4*(x1-x2)≤1000000 := fun h k => tr (Nat.add_le_add (Nat.add_le_add_right (lea h) 3) (Nat.mul_le_mul_left 4 (Nat.le_trans (Nat.sub_le _ _) k))) rfl
theorem ar206 {x0 x1 x2:Nat} : x0+20*(x2+1)≤100000 → x1≤15 → x0+x1+20*x2≤100000 := fun h k => stepb h (tr k rfl)
theorem ar207 {x0 x1 x2:Nat} : x1≤15*x2 → x0≤15 → x0+x1≤15*(x2+1) := fun h k => Nat.le_trans (Nat.add_le_add k h) (Nat.le_of_eq (Nat.add_comm _ _))
theorem ar208 {x0:Nat} : x0≤1000 → 0+20*x0≤100000 := fun h => tr (Nat.add_le_add_left (Nat.mul_le_mul_left 20 h) 0) rfl
theorem ar209 {x0 x1 x2:Nat} : ¬x2<x0 → x1≤x2-x0 → x0+x1+1≤x2+1 := fun h k => Nat.succ_le_succ (add_le (Nat.le_of_not_lt h) k)
theorem ar210 {x0 x1:Nat} : x1+1≤x0 → x0-x1=x0-x1-1+1 := fun h => (Nat.sub_add_cancel (Nat.le_sub_of_add_le' h)).symm
theorem ar211 {x0 x1 x2:Nat} : x0-x1=x2+1 → x0-(x1+1)=x2 := sub_sub1
theorem ar212 {x0 x1 x2:Nat} : x0-x1=x2+1 → (x0:Int)-((x1:Int)+(1:Int))=(x2:Int) := fun h => Int.sub_eq_iff_eq_add.mpr (congrArg (Nat.cast (R := Int)) (Nat.eq_add_of_sub_eq (Nat.lt_of_sub_eq_succ h) (sub_sub1 h)))
theorem ar213 {x0:Nat} : x0≤3 → (x0:Int)<(1000000000:Int) := fun h => Int.ofNat_lt.mpr (trl h rfl)
theorem ar214 {x0 x1 x2 x3:Nat} : x2≤3 → x0<x1+1+x2 → (x0:Int)-((x1:Int)+(1:Int))=(x3:Int) → (0:Int)≤(x0:Int)-((x1:Int)+(1:Int)) ∧ (x0:Int)-((x1:Int)+(1:Int))<(1000000000:Int) := fun h k e => ⟨by rw [e]; exact Int.natCast_nonneg _, Int.lt_of_lt_of_le (Int.sub_left_lt_of_lt_add (Int.ofNat_lt.mpr k)) (Int.ofNat_le.mpr (tr h rfl))⟩
theorem ar215 {x0 x1 x2 x3:Nat} : x2<x3+1+x1 → (x2:Int)-((x3:Int)+(1:Int))=(x0:Int) → x0<x1 := fun h e => Int.ofNat_lt.mp (e ▸ Int.sub_left_lt_of_lt_add (Int.ofNat_lt.mpr h))
theorem ar216 {x0:Nat} : x0≤10 → 9+x0≤16777216 := fun a => tr (Nat.add_le_add_left a 9) rfl
theorem ar217 {x0:Nat} : x0≤10 → 9+x0+30≤16777216 := fun a => tr (Nat.add_le_add_right (Nat.add_le_add_left a 9) 30) rfl
theorem ar218 {x0 x1:Nat} : x0≤10 → x1≤10 → 9+x0+30+x1≤16777216 := fun a b => tr (Nat.add_le_add (Nat.add_le_add_right (Nat.add_le_add_left a 9) 30) b) rfl
theorem ar219 {x0 x1 x2 x3:Nat} : x2-(x3+1)=x0 → x3+1+x1≤x2 → ¬x0<x1 := fun h k => Nat.not_lt.mpr (h ▸ Nat.le_sub_of_add_le' k)
theorem ar220 {x0 x1 x2 x3:Nat} : x2-(x3+1)=x0 → x0-x1=x2-(x3+1+x1) := fun h => by rw [← h, Nat.sub_sub]
theorem ar221 {x0 x1:Nat} : x1+3≤x0 → x0-x1=x0-x1-3+3 := fun h => (Nat.sub_add_cancel (Nat.le_sub_of_add_le' h)).symm
theorem ar222 {x0 x1 x2:Nat} : x0-x1=x2+3 → x0-(x1+3)=x2 := sub_sub1
theorem ar223 {x0 x1 x2 x3:Nat} : x1-x2=x3+3 → x0≤x3 → x0+3≤x1-x2 := by intros; simp_all +arith
theorem ar224 {x0 x1:Nat} : x0+(x1+1)≤1000 → x0<1000000 := fun h => trl (lea h) rfl
theorem ar225 {x0 x1 x2 x3:Nat} : x1≤x2-x0 → x0+3+x3=x0+x1 → x0+x1≤x2 := fun h e => add_le (Nat.le_of_lt (Nat.sub_pos_iff_lt.mp (Nat.lt_of_lt_of_le (by rw [Nat.add_left_cancel (e.symm.trans (Nat.add_assoc x0 3 x3)), Nat.add_comm]; exact Nat.succ_pos _) h))) h
theorem ar226 {x0 x1:Nat} : x0+(x1+1)≤1000 → x0+1+x1≤1000 := by intros; simp only [Nat.add_assoc, Nat.add_comm, Nat.add_left_comm, Nat.zero_add, Nat.add_zero]; first | done | assumption
theorem ar227 {x0:Nat} : x0≤1000 → 0+x0≤1000 := by intros; simp only [Nat.add_assoc, Nat.add_comm, Nat.add_left_comm, Nat.zero_add, Nat.add_zero]; first | done | assumption
theorem ar228 {x0 x1:Nat} : x0<x1 → x1≤3 → (x0:Int)<(1000000000:Int) := fun h k => Int.ofNat_lt.mpr (Nat.lt_of_lt_of_le h (tr k rfl))
theorem ar229 {x0 x1:Nat} : x0≤10 → x1≤10 → 9+x0+30+x1+7≤1000 := fun a b => tr (Nat.add_le_add_right (Nat.add_le_add (Nat.add_le_add_right (Nat.add_le_add_left a 9) 30) b) 7) rfl
theorem ar230 {x0:Nat} : x0≤1000 → x0≤16777216 := fun h => Nat.le_trans h (by decide)
theorem ar231 {x0 x1 x2:Nat} : x0≤x2 → min x1 (x2-x0)=x1 → x0+x1≤x2 := fun h k => add_le h (minl k)
theorem ar232 {x0 x1:Nat} : x1+0=4 → x0<4 → x0<x1 := by intros; subst_vars; first | rfl | assumption | exact Nat.lt_irrefl _ | omega
theorem ar233 {x0 x1:Nat} : x0+(x1+1)=4 → x0<4 := fun h => Nat.lt_of_lt_of_eq (Nat.lt_add_of_pos_right (Nat.succ_pos _)) h
theorem ar234 {x0 x1:Nat} : x0+(x1+1)=4 → x0+1+x1=4 := by intros; simp only [Nat.add_assoc, Nat.add_comm, Nat.add_left_comm, Nat.zero_add, Nat.add_zero]; first | done | assumption
theorem ar235 {x0 x1:Nat} : x0<x1+1 → ¬x0=x1 → x0<x1 := fun h k => Nat.lt_of_le_of_ne (Nat.le_of_lt_succ h) k
theorem ar236 {x0 x1:Nat} : x1+1≤x0 → (x0:Int)-((x1+1:Nat):Int)+(1:Int)=((x0-x1:Nat):Int) := by omega
theorem ar237 {x0 x1:Nat} : x0≤3 → 1+(x0-(x1+1))≤16777216 := fun h => tr (Nat.add_le_add_left (Nat.le_trans (Nat.sub_le _ _) h) 1) rfl
theorem ar238 {x0 x1:Nat} : x0≤3 → x0-x1≤3 := fun h => Nat.le_trans (Nat.sub_le _ _) h
theorem ar239 {x0 x1 x2:Nat} : x0+20*(x2+1)≤100000 → x1≤3 → x0+3+4*x1≤1000000 := fun h k => tr (Nat.add_le_add (Nat.add_le_add_right (lea h) 3) (Nat.mul_le_mul_left 4 k)) rfl
theorem ar240 {x0 x1 x2 x3:Nat} : x0+20*(x2+1)≤100000 → x3≤3 → x1≤4*x3 → x0+3+x1+20*x2≤100000 := fun h k l => by rw [Nat.add_assoc x0 3 x1]; exact stepb h (tr (Nat.add_le_add_left (Nat.le_trans l (Nat.mul_le_mul_left 4 k)) 3) rfl)
theorem ar241 {x0 x1 x2:Nat} : x0+6*(x2+1)≤24 → x1≤6 → x0+x1+6*x2≤24 := fun h k => stepb h k
theorem ar242 {x0:Nat} : x0≤24 → x0<64 := fun h => Nat.lt_of_le_of_lt h (by decide)
theorem ar243 {x0:Int} : Int.toNat (x0%(6:Int))<6 := (Int.toNat_lt (Int.emod_nonneg _ (by decide))).mpr (Int.emod_lt_of_pos x0 (by decide))
theorem ar244 {x0 x1:Nat} : x0+(x1+1)≤3 → x0<1000000 := fun h => trl (lea h) rfl
theorem ar245 {x0 x1:Nat} : x0+(x1+1)≤3 → x0+1+x1≤3 := by intros; simp only [Nat.add_assoc, Nat.add_comm, Nat.add_left_comm, Nat.zero_add, Nat.add_zero]; first | done | assumption
theorem ar246 {x0:Int} : ((0:Int)≤x0%(4:Int) ∧ x0%(4:Int)≤(1000000:Int)) ∧ Int.toNat (x0%(4:Int))≤3 := ⟨⟨Int.emod_nonneg _ (by decide), Int.le_trans (Int.le_of_lt (Int.emod_lt_of_pos x0 (by decide))) (by decide)⟩, Int.toNat_le.mpr (Int.le_of_lt_add_one (Int.emod_lt_of_pos x0 (by decide)))⟩
theorem ar248 {x0 x1:Nat} : x0+(x1+1)≤6 → x0≤5-x1+1 := fun h => Nat.le_succ_of_le (Nat.le_sub_of_add_le (Nat.le_of_succ_le_succ h))
theorem ar249 {x0 x1:Nat} : x0+(x1+1)≤6 → x0≤5-x1 := fun h => Nat.le_sub_of_add_le (Nat.le_of_succ_le_succ h)
theorem ar250 {x0 x1 x2:Nat} : x0≤5-x1+1 → x2+(x1+1)≤6 → x0+x1≤6 := fun h k => Nat.le_trans (Nat.add_le_add_right h x1) (Nat.le_of_eq (by rw [Nat.add_right_comm, Nat.sub_add_cancel (Nat.le_of_succ_le_succ (Nat.le_trans (Nat.le_add_left _ _) k))]))
theorem ar251 {x0:Nat} : (0:Int)≤min (4:Int) (x0:Int) := Int.le_min.mpr ⟨by decide, Int.natCast_nonneg _⟩
theorem ar252 {x0:Nat} : min (4:Int) (x0:Int)≤(1000000:Int) := Int.le_trans (Int.min_le_left _ _) (by decide)
theorem ar253 {x0 x1:Nat} : x0≤2 → x0+Int.toNat (min (4:Int) (x1:Int))≤6 := fun h => Nat.add_le_add h (Int.toNat_le.mpr (Int.min_le_left _ _))
theorem ar254 {x0:Nat} : x0<4 → x0<1000000 := fun h => Nat.le_trans h (by decide)
theorem ar255 {x0 x1:Nat} : x0+1+x1=x0 → False := by intros; simp_all +arith
theorem ar256 {x0 x1:Nat} : x0+1+x1-x0=x1+1 := by rw [Nat.add_assoc, Nat.add_sub_cancel_left, Nat.add_comm]
theorem ar257 {x0:Nat} : x0≤24 → x0≤1000 := fun h => Nat.le_trans h (by decide)
theorem ar258 {x0:Nat} : (0:Int)<(x0:Int)+(1:Int) := Int.succ_ofNat_pos x0
theorem ar259 {x0:Nat} : (x0:Int)+(1:Int)≠(0:Int) := Ne.symm (not_eq_of_beq_eq_false rfl)
theorem ar260 {x0 x1:Nat} : (x0:Int)<(x1:Int)+(1:Int) → (x0:Int)≤(x1:Int) := fun h => (Int.add_le_add_iff_right 1).mp h
theorem ar261 {x0:Int} {x1 x2:Nat} : x1=x2 → (0:Int)≤x0 ∧ x0<(x2:Int) → Int.toNat x0<x1 := fun e h => e ▸ (Int.toNat_lt h.1).mpr h.2
theorem ar262 {x0 x1:Nat} : x0+8*x1≤9000 → x0+2<9900 := fun h => trl (Nat.add_le_add_right (lea h) 2) rfl
theorem ar263 {x0 x1 x2:Nat} : x0≤x2+8 → x2+8*(x1+1)≤9000 → x0+8*x1≤9000 := fun k h => Nat.le_trans (Nat.add_le_add_right k _) (stepb h (Nat.le_refl 8))
theorem ar264 {x0:Nat} : ¬(63:Int)<(x0:Int) → x0≤1000 := fun h => tr (show x0 ≤ 63 from Int.ofNat_le.mp (Int.not_lt.mp h)) rfl
open PySem PySem.W PyProof.Rows PySem.Calls
section
theorem nosome {α : Type} {x : α} {P : Prop} (h : (none : Option α) = some x) : P := nomatch h
theorem ff_tt {P : Prop} (h : false = true) : P := nomatch h
set_option genInjectivity true in
inductive D where
  | none | bool (b : Bool) | int (i : Int) | str (s : List Nat) | bytes (b : List UInt8)
  | list (l : List D) | tup (l : List D) | mut (i : Nat) | strm (b : List UInt8) (i : Nat) | ty (n : String) | obj (a : Nat)
noncomputable abbrev Mu := List (Option (List D))
noncomputable abbrev PMap := Addr → Option Obj
noncomputable def PMap.le (f g : PMap) : Prop := ∀ a o, f a = some o → g a = some o
noncomputable def PMap.set (f : PMap) (a : Addr) (o : Obj) : PMap := fun b => if b = a then some o else f b
theorem PMap.set_some {f : PMap} {a b : Addr} {o o' : Obj} (h : f.set a o b = some o') : (b = a ∧ o' = o) ∨ f b = some o' := by
  unfold PMap.set at h
  by_cases e : b = a
  · rw [if_pos e] at h; exact .inl ⟨e, (Option.some.inj h).symm⟩
  · rw [if_neg e] at h; exact .inr h
theorem PMap.set_none {f : PMap} {a b : Addr} {o : Obj} (h : f b = none) (e : b ≠ a) : f.set a o b = none := by
  unfold PMap.set; rw [if_neg e]; exact h
theorem PMap.set_at (f : PMap) (a : Addr) (o : Obj) : f.set a o a = some o := if_pos rfl
theorem PMap.le_set {f : PMap} {a : Addr} {o : Obj} (h : f a = none) : f.le (f.set a o) := fun b o' e => by
  unfold PMap.set
  by_cases q : b = a
  · subst q; rw [e] at h; cases h
  · rw [if_neg q]; exact e
theorem PMap.le.refl (f : PMap) : f.le f := fun zz zz h => h
theorem PMap.le.trans {f g k : PMap} (a : f.le g) (b : g.le k) : f.le k := fun zz zz h => b _ _ (a _ _ h)
noncomputable abbrev big : Nat := 16777216
noncomputable abbrev listO (vs : Array Value) (n : Nat) : Obj := { cls := .type "list", dict := none, data := .seq vs n, slots := #[] }
noncomputable abbrev tupO (vs : Array Value) (n : Nat) : Obj := { cls := .type "tuple", dict := none, data := .seq vs n, slots := #[] }
noncomputable def lawStream : Arguments × List Stmt × Scope := (PySem.Challenge.pw_ik0060_01.theDef "_law_stream").getD default
noncomputable def readDef : Arguments × List Stmt × Scope × Pos := match lawStream.2.1 with
  | _ :: .FunctionDef _ args body _ _ _ scope _ _ pos :: _ => (args, body, scope, pos)
  | _ => default
noncomputable abbrev qualRead : Str := "_law_stream.<locals>.read"
inductive ReadAt (φ : PMap) (r c1 c2 : Addr) : Prop
  | mk : ∀ o pm doc ct cd clos, φ r = some o → o.data = .func { name := "read", qualname := qualRead, params := readDef.1, body := .stmts readDef.2.1, scope := readDef.2.2.1, globals := mainGlobals, closure := clos, closureTuple := ct, code := cd, builtins := builtinsNs, defaults := .none, kwdefaults := .none, annotations := none, pyModule := pm, doc := doc } →
    clos.lookup ("octets" : Str) = some c1 → clos.lookup ("spot" : Str) = some c2 → (∀ x c, clos.lookup x = some c → (x = "octets" ∧ c = c1) ∨ (x = "spot" ∧ c = c2)) → ∀ c oc vs t, cd = .ref c → φ c = some oc → oc.data = .fields vs → vs[1]? = some (.str qualRead t) → ReadAt φ r c1 c2
inductive StrmAt (π : List Addr) (φ : PMap) (a : Addr) (b : List UInt8) (i : Nat) : Prop
  | mk : ∀ o fd d od es ep r c1 c2 arr t sa, φ a = some o → o.cls = .type "function" → o.data = .func fd → o.dict = some d → φ d = some od → od.data = .dict es ep → (∀ x ∈ es, ∃ n t, x.key = .str n t) → nsFind es "read" = some (.ref r) → ReadAt φ r c1 c2 →
    ∀ o1, φ c1 = some o1 → o1.data = .cell (some (.bytes arr t)) → ∀ o2, φ c2 = some o2 → o2.data = .cell (some (.ref sa)) → arr.toList = b → arr.size ≤ big → π[i]? = some sa → StrmAt π φ a b i
mutual
inductive V (π : List Addr) (φ : PMap) : Value → D → Prop
  | none : V π φ .none .none
  | bool (b : Bool) : V π φ (.bool b) (.bool b)
  | int (i : Int) (t : Tok) : V π φ (.int i t) (.int i)
  | str (s : Str) (t : Tok) (hz : s.cps.size ≤ big) : V π φ (.str s t) (.str s.cps.toList)
  | bytes (b : Array UInt8) (t : Tok) (hz : b.size ≤ big) : V π φ (.bytes b t) (.bytes b.toList)
  | list {a : Addr} {vs : Array Value} {n : Nat} {ds : List D} (h : φ a = some (listO vs n)) (hz : vs.size ≤ big) (r : Vs π φ vs.toList ds) : V π φ (.ref a) (.list ds)
  | tup {a : Addr} {vs : Array Value} {n : Nat} {ds : List D} (h : φ a = some (tupO vs n)) (hz : vs.size ≤ big) (r : Vs π φ vs.toList ds) : V π φ (.ref a) (.tup ds)
  | mut {i : Nat} {a : Addr} (h : π[i]? = some a) : V π φ (.ref a) (.mut i)
  | strm {a : Addr} {b : List UInt8} {i : Nat} (h : StrmAt π φ a b i) : V π φ (.ref a) (.strm b i)
  | ty (n : String) : V π φ (.type n) (.ty n)
  | obj (a : Addr) : V π φ (.ref a) (.obj a)
inductive Vs (π : List Addr) (φ : PMap) : List Value → List D → Prop
  | nil : Vs π φ [] []
  | cons {v : Value} {d : D} {vs : List Value} {ds : List D} (h : V π φ v d) (r : Vs π φ vs ds) : Vs π φ (v :: vs) (d :: ds)
end
noncomputable def Vw (π : List Addr) (φ : PMap) (v : Value) : D → Prop
  | .none => v = .none | .bool b => v = .bool b | .int i => ∃ t, v = .int i t
  | .str l => ∃ x t, v = .str x t ∧ x.cps.toList = l ∧ x.cps.size ≤ big
  | .bytes l => ∃ x t, v = .bytes x t ∧ x.toList = l ∧ x.size ≤ big
  | .list l => ∃ a vs n, v = .ref a ∧ φ a = some (listO vs n) ∧ Vs π φ vs.toList l ∧ vs.size ≤ big
  | .tup l => ∃ a vs n, v = .ref a ∧ φ a = some (tupO vs n) ∧ Vs π φ vs.toList l ∧ vs.size ≤ big
  | .mut i => ∃ a, v = .ref a ∧ π[i]? = some a
  | .strm b i => ∃ a, v = .ref a ∧ StrmAt π φ a b i
  | .ty n => v = .type n | .obj a => v = .ref a
theorem V.inv {π : List Addr} {φ : PMap} {v : Value} {d : D} (h : V π φ v d) : Vw π φ v d := by
  cases h with
  | none => rfl
  | bool => rfl
  | int i t => exact ⟨t, rfl⟩
  | str s t hz => exact ⟨s, t, rfl, rfl, hz⟩
  | bytes s t hz => exact ⟨s, t, rfl, rfl, hz⟩
  | list h hz r => exact ⟨_, _, _, rfl, h, r, hz⟩
  | tup h hz r => exact ⟨_, _, _, rfl, h, r, hz⟩
  | «mut» h => exact ⟨_, rfl, h⟩
  | strm h => exact ⟨_, rfl, h⟩
  | ty n => rfl
  | obj a => rfl
noncomputable def Vsw (π : List Addr) (φ : PMap) (vs : List Value) : List D → Prop
  | [] => vs = []
  | d :: ds => ∃ v us, vs = v :: us ∧ V π φ v d ∧ Vs π φ us ds
theorem Vs.inv {π : List Addr} {φ : PMap} {vs : List Value} {ds : List D} (h : Vs π φ vs ds) : Vsw π φ vs ds := by
  cases h with
  | nil => rfl
  | cons h r => exact ⟨_, _, rfl, h, r⟩
noncomputable def Pre (π π' : List Addr) : Prop := ∀ (i : Nat) (a : Addr), π[i]? = some a → π'[i]? = some a
theorem Pre.refl (π : List Addr) : Pre π π := fun zz zz h => h
theorem Pre.trans {a b c : List Addr} (x : Pre a b) (y : Pre b c) : Pre a c := fun zz zz h => y _ _ (x _ _ h)
theorem ReadAt.mono {φ φ' : PMap} {r c1 c2 : Addr} (h : ReadAt φ r c1 c2) (hf : φ.le φ') : ReadAt φ' r c1 c2 := by
  cases h with
  | mk o pm doc ct cd clos e d l1 l2 l3 c oc vs t ec e2 e3 e4 => exact .mk o pm doc ct cd clos (hf _ _ e) d l1 l2 l3 c oc vs t ec (hf _ _ e2) e3 e4
theorem StrmAt.mono {π π' : List Addr} {φ φ' : PMap} {a : Addr} {b : List UInt8} {i : Nat} (h : StrmAt π φ a b i) (hp : Pre π π') (hf : φ.le φ') : StrmAt π' φ' a b i := by
  cases h with
  | mk o fd d od es ep r c1 c2 arr t sa e1 k1 k2 k3 e2 k4 k5 k6 k7 o1 e3 k8 o2 e4 k9 k10 k11 e5 => exact .mk o fd d od es ep r c1 c2 arr t sa (hf _ _ e1) k1 k2 k3 (hf _ _ e2) k4 k5 k6 (k7.mono hf) o1 (hf _ _ e3) k8 o2 (hf _ _ e4) k9 k10 k11 (hp _ _ e5)
theorem V.mono {π π' : List Addr} {φ φ' : PMap} (hp : Pre π π') (hf : φ.le φ') {v : Value} {d : D} (h : V π φ v d) : V π' φ' v d :=
  V.rec (motive_1 := fun v d zz => V π' φ' v d) (motive_2 := fun v d zz => Vs π' φ' v d) .none .bool .int .str .bytes (fun h hz zz r => .list (hf _ _ h) hz r) (fun h hz zz r => .tup (hf _ _ h) hz r) (fun h => .mut (hp _ _ h)) (fun h => .strm (h.mono hp hf)) .ty .obj .nil (fun zz zz h r => .cons h r) h
theorem Vs.mono {π π' : List Addr} {φ φ' : PMap} (hp : Pre π π') (hf : φ.le φ') {v : List Value} {d : List D} (h : Vs π φ v d) : Vs π' φ' v d :=
  Vs.rec (motive_1 := fun v d zz => V π' φ' v d) (motive_2 := fun v d zz => Vs π' φ' v d) .none .bool .int .str .bytes (fun h hz zz r => .list (hf _ _ h) hz r) (fun h hz zz r => .tup (hf _ _ h) hz r) (fun h => .mut (hp _ _ h)) (fun h => .strm (h.mono hp hf)) .ty .obj .nil (fun zz zz h r => .cons h r) h
inductive Fn | fspath | sep | join | basename | dirname | common | pop | replace | heapify | down | up | uint1 | string1 | stream | rows | same | union | written | told | record | head | merged | paths | law
structure GG where
  w : World
  H : Heap
  mg : Str → Option Value
  mb : Str → Option Value
  fa : Fn → Addr
  C : Addr
  P : Addr
noncomputable abbrev GG.M (G : GG) : Model := model PySem.Challenge.pw_ik0060_01 G.w
noncomputable def fnNames : List (Str × Fn) := [("fspath", .fspath), ("_get_sep", .sep), ("join", .join), ("basename", .basename), ("dirname", .dirname), ("commonpath", .common), ("heappop", .pop), ("heapreplace", .replace), ("heapify", .heapify),
  ("_siftdown", .down), ("_siftup", .up), ("read_uint1", .uint1), ("read_string1", .string1), ("_law_stream", .stream), ("_law_rows", .rows), ("_law_same", .same), ("_law_union", .union), ("_law_written", .written),
  ("_law_told", .told), ("_law_record", .record), ("_law_head", .head), ("_law_merged", .merged), ("_law_paths", .paths), ("law", .law)]
noncomputable def freeNames : List Str := ["len", "min", "max", "sorted", "sum", "abs", "bytes", "ord", "str", "isinstance", "issubclass", "type", "tuple", "map", "enumerate", "range", "reversed", "ValueError"]
noncomputable abbrev tabO (ps : Array Value) : Obj := { cls := .none, data := .fields ps }
structure GOk (G : GG) : Prop where
  hid : G.H.get? G.P = none
  code : ∀ (h : Heap) (ps : Array Value), (∀ b o, G.H.get? b = some o → h.get? b = some o) → h.get? G.P = some (tabO ps) → TriplesOk ps.toList → h.IsCode G.C G.P ps ∧ h.TableAt G.C G.P ps
  bmain : ∃ bm ob, G.mg "__builtins__" = some (.ref bm) ∧ bm ≠ builtinsNs ∧ G.H.get? bm = some ob ∧ ob.cls = .type "module" ∧ ob.dict = some builtinsNs ∧ ob.data = .plain
  strm : ∀ o fd, G.H.get? (G.fa .stream) = some o → o.data = .func fd → fd.code = .ref G.C
  gns : G.H.Ns mainGlobals G.mg
  bns : G.H.Ns builtinsNs G.mb
  lim : G.H.NoLimit
  bi : ∀ x : Str, x ≠ "__name__" → G.mb x = bootBuiltins x
  free : ∀ x ∈ freeNames, G.mg x = none
  fn : ∀ (n : Str) (f : Fn), (n, f) ∈ fnNames → G.mg n = some (.ref (G.fa f)) ∧ ∃ o pm code doc params body scope, G.H.get? (G.fa f) = some o ∧ o.data = .func (docDef n params body scope pm code doc) ∧ G.H.CodeRec code n ∧ PySem.Challenge.pw_ik0060_01.theDef n = some (params, body, scope)
structure Wd where
  ψ : PMap
  φ : PMap
  fs : PMap
  π : List Addr
  base : Shared
structure Wd.le (W W' : Wd) : Prop where
  ψ : W'.ψ = W.ψ
  fs : W'.fs = W.fs
  φ : W.φ.le W'.φ
  π : Pre W.π W'.π
  base : W'.base = W.base
  fresh : ∀ a, (W.ψ a ≠ none ∨ W.fs a ≠ none) → W.φ a = none → W'.φ a = none
theorem Wd.le.refl (W : Wd) : W.le W := ⟨rfl, rfl, .refl _, .refl _, rfl, fun zz zz h => h⟩
theorem Wd.le.trans {a b c : Wd} (x : a.le b) (y : b.le c) : a.le c := ⟨y.ψ.trans x.ψ, y.fs.trans x.fs, x.φ.trans y.φ, x.π.trans y.π, y.base.trans x.base, fun d h e => y.fresh d (by rw [x.ψ, x.fs]; exact h) (x.fresh d h e)⟩
theorem V.up {W W' : Wd} (h : W.le W') {v : Value} {d : D} (x : V W.π W.φ v d) : V W'.π W'.φ v d := x.mono h.π h.φ
theorem Vs.up {W W' : Wd} (h : W.le W') {v : List Value} {d : List D} (x : Vs W.π W.φ v d) : Vs W'.π W'.φ v d := x.mono h.π h.φ
structure Tab (G : GG) (W : Wd) (h : Heap) : Prop where
  st : ∃ ps, h.get? G.P = some (tabO ps) ∧ TriplesOk ps.toList ∧ ∀ cv, codeAmong readDef.2.2.2 ps.toList = some cv → ∃ c oc vs t, cv = .ref c ∧ W.φ c = some oc ∧ oc.data = .fields vs ∧ vs[1]? = some (.str qualRead t)
  ψ : W.ψ G.P = none
  φ : W.φ G.P = none
  fs : ∃ ps, W.fs G.P = some (tabO ps)
theorem Tab.move {G : GG} {W W' : Wd} {h h' : Heap} (t : Tab G W h) (k : ∀ o, h.get? G.P = some o → h'.get? G.P = some o) (hψ : W'.ψ G.P = none) (hφ : W'.φ G.P = none) (hfs : W'.fs G.P = W.fs G.P) (le : W.φ.le W'.φ) : Tab G W' h' := by
  refine t.st.elim fun ps zz50 => zz50.elim fun e zz51 => zz51.elim fun t1 t2 => ?_
  obtain ⟨ps', e'⟩ := t.fs
  exact ⟨⟨ps, k _ e, t1, fun cv hcv => (t2 cv hcv).elim fun c zz1 => zz1.elim fun oc zz2 => zz2.elim fun vs zz3 => zz3.elim fun t zz4 => zz4.elim fun a1 zz5 => zz5.elim fun a2 a3 => ⟨c, oc, vs, t, a1, le _ _ a2, a3⟩⟩, hψ, hφ, ⟨ps', hfs.trans e'⟩⟩
structure WRel (G : GG) (W : Wd) (μ : Mu) (s : Shared) : Prop where
  gok : GOk G
  ground : ∀ a o, G.H.get? a = some o → W.ψ a = some o
  ψ : ∀ a o, W.ψ a = some o → s.heap.get? a = some o
  φ : ∀ a o, W.φ a = some o → s.heap.get? a = some o
  fs : ∀ a o, W.fs a = some o → a ≠ G.P → ∃ sl, s.heap.get? a = some { o with slots := sl }
  len : W.π.length = μ.length
  muts : ∀ (i : Nat) (a : Addr) (ds : List D), W.π[i]? = some a → μ[i]? = some (some ds) → ∃ vs n, s.heap.get? a = some (listO vs n) ∧ vs.size ≤ big ∧ Vs W.π W.φ vs.toList ds
  nodup : W.π.Nodup
  apart : ∀ a ∈ W.π, W.ψ a = none ∧ W.fs a = none
  live : ∀ (i : Nat) (a : Addr) (ds : List D), W.π[i]? = some a → μ[i]? = some (some ds) → W.φ a = none
  done : ∀ (i : Nat) (a : Addr), W.π[i]? = some a → μ[i]? = some none → ∃ vs n, W.φ a = some (listO vs n)
  tab : Tab G W s.heap
  rest : ∃ h t, s = { W.base with heap := h, toks := t }
noncomputable def Known (W : Wd) (b : Addr) : Prop := W.ψ b ≠ none ∨ W.φ b ≠ none ∨ W.fs b ≠ none ∨ b ∈ W.π
theorem some_ne {α : Type} {o : Option α} {x : α} (h : o = some x) : o ≠ none := by rw [h]; exact fun q => nomatch q
section
variable {G : GG} {W : Wd} {μ : Mu} {s : Shared}
theorem WRel.at (R : WRel G W μ s) {h' : Heap} {t : Nat} (k : ∀ b o, Known W b → s.heap.get? b = some o → h'.get? b = some o) : WRel G W μ { s with heap := h', toks := t } where
  gok := R.gok
  ground := R.ground
  ψ := fun a o e => k _ _ (.inl (some_ne e)) (R.ψ a o e)
  φ := fun a o e => k _ _ (.inr (.inl (some_ne e))) (R.φ a o e)
  fs := fun a o e hp => (R.fs a o e hp).imp fun sl h => k _ _ (.inr (.inr (.inl (some_ne e)))) h
  len := R.len
  muts := fun i a ds e1 e2 => by
    refine (R.muts i a ds e1 e2).elim fun vs zz52 => zz52.elim fun n zz53 => zz53.elim fun h1 h2 => ?_
    exact ⟨vs, n, k _ _ (.inr (.inr (.inr (List.mem_of_getElem? e1)))) h1, h2⟩
  nodup := R.nodup
  apart := R.apart
  live := R.live
  done := R.done
  tab := R.tab.move (fun o e => k _ _ (.inr (.inr (.inl (R.tab.fs.elim fun zz q => some_ne q)))) e) R.tab.ψ R.tab.φ rfl (.refl _)
  rest := by
    refine R.rest.elim fun h zz54 => zz54.elim fun t' e => ?_
    exact ⟨h', t, by rw [e]⟩
theorem WRel.keeps (R : WRel G W μ s) {h' : Heap} {t : Nat} (k : ∀ b o, s.heap.get? b = some o → h'.get? b = some o) : WRel G W μ { s with heap := h', toks := t } := R.at fun b o zz e => k b o e
theorem WRel.fsNone (R : WRel G W μ s) {a : Addr} (hn : s.heap.get? a = none) : W.fs a = none := by
  cases e : W.fs a with
  | none => rfl
  | some o =>
    by_cases hp : a = G.P
    · refine R.tab.st.elim fun ps zz55 => zz55.elim fun e2 zz => ?_
      rw [← hp, hn] at e2; exact nosome e2
    · obtain ⟨sl, h⟩ := R.fs _ _ e hp
      rw [hn] at h; exact nosome h
theorem WRel.notTab (R : WRel G W μ s) {a : Addr} (h : W.fs a = none) : a ≠ G.P := fun q => by
  obtain ⟨ps, e⟩ := R.tab.fs
  rw [← q, h] at e; exact nosome e
end
end
noncomputable abbrev Rho := List (Option D)
noncomputable def look : Rho → Nat → Option D
  | [], _ => none
  | d :: _, 0 => d
  | _ :: r, i + 1 => look r i
noncomputable def put : Rho → Nat → Option D → Rho
  | [], _, _ => []
  | _ :: r, 0, d => d :: r
  | c :: r, i + 1, d => c :: put r i d
theorem look_put : ∀ (ρ : Rho) (i j : Nat) (d : Option D), look (put ρ i d) j = if i = j ∧ i < ρ.length then d else look ρ j
  | [], i, j, d => by simp [look, put]
  | c :: r, 0, 0, d => by simp [look, put]
  | c :: r, 0, j + 1, d => by simp [look, put]
  | c :: r, i + 1, 0, d => by simp [look, put]
  | c :: r, i + 1, j + 1, d => by simp [look, put, look_put r i j d]
structure Fm where
  env : Env
  vars : List Str
  own : List Addr
  isFn : Bool
  outer : List Env
structure FmOk (F : Fm) : Prop where
  kind : F.env.scope.kind = .function
  glob : F.env.globals = mainGlobals
  bi : F.env.builtins = builtinsNs
  nodup : F.vars.Nodup
  sto : F.isFn = true → ∀ x c, F.env.kindOf x = some .cell → F.env.cells.lookup x = some c → c ∈ F.own
  frame : F.isFn = true → F.env.frame = some F.env.locals
noncomputable def VarOk (F : Fm) (W : Wd) (m : Str → Option Value) (h : Heap) (x : Str) (od : Option D) : Prop :=
  (F.env.kindOf x = some .local ∧ ∀ d, od = some d → ∃ v, m x = some v ∧ V W.π W.φ v d) ∨
  ((F.env.kindOf x = some .cell ∨ F.env.kindOf x = some .free) ∧ ∃ c o, F.env.cells.lookup x = some c ∧ h.IsCell c o ∧ ∀ d, od = some d → ∃ v, o = some v ∧ V W.π W.φ v d)
noncomputable def Out (F : Fm) (W : Wd) (a : Addr) : Prop := W.ψ a = none ∧ W.φ a = none ∧ W.fs a = none ∧ a ∉ W.π ∧ a ∉ F.env.locals :: F.own
structure Rel (G : GG) (F : Fm) (W : Wd) (ρ : Rho) (μ : Mu) (s : Shared) : Prop where
  wr : WRel G W μ s
  ok : FmOk F
  loc : ∃ m, s.heap.Ns F.env.locals m ∧ ∀ (i : Nat) (x : Str), F.vars[i]? = some x → VarOk F W m s.heap x (look ρ i)
  priv : ∀ a, a ∈ F.env.locals :: F.own → W.ψ a = none ∧ W.φ a = none ∧ W.fs a = none ∧ a ∉ W.π
  pnd : (F.env.locals :: F.own).Nodup
  cells : ∀ x c, F.env.cells.lookup x = some c → c ∈ F.own ∨ ∃ o, W.ψ c = some o
  cnd : ∀ x y c, F.env.cells.lookup x = some c → F.env.cells.lookup y = some c → x = y
  there : ∀ a ∈ F.own, ∃ o, s.heap.get? a = some o
noncomputable def FrOk (W : Wd) (L : Option Addr) (e : Env) : Prop := e.scope.kind ≠ .module ∧ ∃ a, e.frame = some a ∧ (some a = L ∨ (∃ o, W.fs a = some o ∧ ∀ vs, o.data ≠ .fields vs) ∧ W.ψ a = none ∧ W.φ a = none)
structure AOk (F : Fm) (W : Wd) (k : Nat) (A : Around) : Prop where
  handled : A.handled = none
  depth : A.depth + k ≤ 900
  units : A.units + 8 * k ≤ 9000
  frames : ∃ l, A.frames = some l ∧ (F.isFn = true → l = F.env :: F.outer) ∧ ∀ e ∈ l, FrOk W (some F.env.locals) e
inductive TrD (O : Addr → Prop) (h : Heap) (e t : Addr) (vs : Array Value) : Prop
  | mk (T : Addr) (oT : Obj) (ts : Array Value) (h1 : vs[1]? = some (.ref T)) (ho : O T) (hTe : T ≠ e) (hTt : T ≠ t) (hT : h.get? T = some oT) (hd : oT.data = .fields ts) (hz : 3 < ts.size)
inductive ExcD (O : Addr → Prop) (b : Bool) (h : Heap) (e : Addr) (msg : List Nat) : Prop
  | mk (oe : Obj) (vs : Array Value) (t : Addr) (ot : Obj) (x : Str) (tk : Tok) (n : Nat) (he : h.get? e = some oe) (hc : oe.cls = .type "ValueError") (hd : oe.data = .fields vs) (hz : vs.size = 6) (h0 : vs[0]? = some (.ref t))
    (ht : h.get? t = some ot) (htc : ot.cls = .type "tuple") (htd : ot.data = .seq #[.str x tk] n) (hx : x.cps.toList = msg) (ho : O e) (hne : e ≠ t) (tr : (b = false ∧ vs[1]? = some .none) ∨ TrD O h e t vs)
theorem ExcD.mono {O O' : Addr → Prop} {b : Bool} {h : Heap} {e : Addr} {msg : List Nat} (x : ExcD O b h e msg) (f : ∀ a, O a → O' a) (b' : Bool) (hb : b = false → b' = false) : ExcD O' b' h e msg := by
  cases x with
  | mk oe vs t ot x tk n he hc hd hz h0 ht htc htd hx ho hne tr =>
    refine .mk oe vs t ot x tk n he hc hd hz h0 ht htc htd hx (f _ ho) hne (tr.imp (fun q => ⟨hb q.1, q.2⟩) fun q => ?_)
    cases q with
    | mk T oT ts h1 ho hTe hTt hT hd hz => exact .mk T oT ts h1 (f _ ho) hTe hTt hT hd hz
noncomputable abbrev ExcAt (F : Fm) (W : Wd) (h : Heap) (e : Addr) (msg : List Nat) : Prop := ExcD (Out F W) false h e msg
inductive PX (G : GG) (F : Fm) (W : Wd) (X : List Nat → Rho → Mu → Prop) (x : Value) (s' : Shared) : Prop
  | mk (W' : Wd) (e : Addr) (msg : List Nat) (ρ' : Rho) (μ' : Mu) (le : W.le W') (r : Rel G F W' ρ' μ' s') (hx : x = .ref e) (ex : ExcAt F W' s'.heap e msg) (q : X msg ρ' μ')
theorem PX.up {G : GG} {F : Fm} {W W₁ : Wd} {X : List Nat → Rho → Mu → Prop} {x : Value} {s' : Shared} (h : W.le W₁) (p : PX G F W₁ X x s') : PX G F W X x s' := by
  cases p with
  | mk W' e msg ρ' μ' le r hx ex q => exact .mk W' e msg ρ' μ' (h.trans le) r hx ex q
theorem PX.mono {G : GG} {F : Fm} {W : Wd} {X Y : List Nat → Rho → Mu → Prop} {x : Value} {s' : Shared} (p : PX G F W X x s') (h : ∀ m ρ μ, X m ρ μ → Y m ρ μ) : PX G F W Y x s' := by
  cases p with
  | mk W' e msg ρ' μ' le r hx ex q => exact .mk W' e msg ρ' μ' le r hx ex (h _ _ _ q)
inductive PQ {α β : Type} (G : GG) (F : Fm) (W : Wd) (R : Wd → α → β → Prop) (Q : β → Rho → Mu → Prop) (a : α) (s' : Shared) : Prop
  | mk (W' : Wd) (b : β) (ρ' : Rho) (μ' : Mu) (le : W.le W') (r : Rel G F W' ρ' μ' s') (hv : R W' a b) (q : Q b ρ' μ')
theorem PQ.up {α β : Type} {G : GG} {F : Fm} {W W₁ : Wd} {R : Wd → α → β → Prop} {Q : β → Rho → Mu → Prop} {a : α} {s' : Shared} (h : W.le W₁) (p : PQ G F W₁ R Q a s') : PQ G F W R Q a s' := by
  cases p with
  | mk W' b ρ' μ' le r hv q => exact .mk W' b ρ' μ' (h.trans le) r hv q
noncomputable def WG {α β : Type} (G : GG) (F : Fm) (k : Nat) (R : Wd → α → β → Prop) (ρ : Rho) (μ : Mu) (t : Sem α) (Q : β → Rho → Mu → Prop) (X : List Nat → Rho → Mu → Prop) : Prop :=
  ∀ W A s, AOk F W k A → Rel G F W ρ μ s → wpAny G.M A t (PQ G F W R Q) (PX G F W X) s
noncomputable abbrev RV : Wd → Value → D → Prop := fun W v d => V W.π W.φ v d
noncomputable abbrev RVs : Wd → List Value → List D → Prop := fun W v d => Vs W.π W.φ v d
noncomputable abbrev RE {α : Type} : Wd → α → α → Prop := fun zz a b => a = b
inductive Fl where
  | next | brk | cont | ret (d : D)
inductive RF (W : Wd) : Flow → Fl → Prop
  | next : RF W .next .next
  | brk : RF W .brk .brk
  | cont : RF W .cont .cont
  | ret {v : Value} {d : D} (h : V W.π W.φ v d) : RF W (.ret v) (.ret d)
theorem AOk.up {F : Fm} {W W' : Wd} {k : Nat} {A : Around} (a : AOk F W k A) (h : W.le W') : AOk F W' k A :=
  ⟨a.handled, a.depth, a.units, a.frames.elim fun l zz16 => zz16.elim fun e zz17 => zz17.elim fun h1 h2 => ⟨l, e, h1, fun x hx => (h2 x hx).elim fun p zz18 => zz18.elim fun q zz19 => zz19.elim fun r z => ⟨p, q, r, z.imp id fun zz1 => zz1.elim fun zz2 zz3 => zz2.elim fun o zz4 => zz4.elim fun y n => zz3.elim fun u v => ⟨⟨o, by rw [h.fs]; exact y, n⟩, by rw [h.ψ]; exact u, h.fresh _ (.inr (by rw [y]; exact fun z => nomatch z)) v⟩⟩⟩⟩
theorem WG.mono {α β : Type} {G : GG} {F : Fm} {k : Nat} {R : Wd → α → β → Prop} {ρ : Rho} {μ : Mu} {t : Sem α} {Q Q' : β → Rho → Mu → Prop} {X X' : List Nat → Rho → Mu → Prop}
    (h : WG G F k R ρ μ t Q X) (hq : ∀ b ρ μ, Q b ρ μ → Q' b ρ μ) (hx : ∀ m ρ μ, X m ρ μ → X' m ρ μ) : WG G F k R ρ μ t Q' X' := fun W A s a r =>
  wpAny_mono (h W A s a r) (fun zz zz p => by cases p with | mk W' b ρ' μ' p1 p2 p3 p4 => exact .mk W' b ρ' μ' p1 p2 p3 (hq _ _ _ p4)) fun zz zz p => p.mono hx
theorem VarOk.up {F : Fm} {W W' : Wd} {m : Str → Option Value} {h : Heap} {x : Str} {od : Option D} (v : VarOk F W m h x od) (le : W.le W') : VarOk F W' m h x od :=
  v.imp (fun zz10 => zz10.elim fun a b => ⟨a, fun d e => (b d e).elim fun v zz20 => zz20.elim fun p q => ⟨v, p, q.up le⟩⟩) fun ⟨a, c, o, p, q, r⟩ => ⟨a, c, o, p, q, fun d e => (r d e).elim fun v zz21 => zz21.elim fun p q => ⟨v, p, q.up le⟩⟩
theorem Rel.ofW {G : GG} {F : Fm} {W W' : Wd} {ρ : Rho} {μ μ' : Mu} {s s' : Shared} (r : Rel G F W ρ μ s) (w : WRel G W' μ' s') (le : W.le W') (k : ∀ b o, (b ∈ F.env.locals :: F.own ∨ W.ψ b ≠ none) → s.heap.get? b = some o → s'.heap.get? b = some o)
    (hp : ∀ b ∈ F.env.locals :: F.own, W'.φ b = none ∧ b ∉ W'.π) : Rel G F W' ρ μ' s' := by
  refine ⟨w, r.ok, ?_, fun b hb => ?_, r.pnd, fun x c e => by rw [le.ψ]; exact r.cells x c e, r.cnd, fun b hb => ?_⟩
  · obtain ⟨m, hm, h⟩ := r.loc
    refine ⟨m, ?_, fun i x e => ?_⟩
    · refine hm.elim fun o zz23 => zz23.elim fun es zz24 => zz24.elim fun ep zz25 => zz25.elim fun e z => ?_
      exact ⟨o, es, ep, k _ _ (.inl (List.mem_cons_self ..)) e, z⟩
    · refine VarOk.up (W := W) ?_ le
      rcases h i x e with q | ⟨a, c, o, p, ⟨co, g1, g2⟩, z⟩
      · exact .inl q
      · refine .inr ⟨a, c, o, p, ⟨co, k c co ?_ g1, g2⟩, z⟩
        rcases r.cells _ _ p with q | ⟨o2, q⟩
        · exact .inl (List.mem_cons_of_mem _ q)
        · exact .inr (some_ne q)
  · obtain ⟨p, _, x, _⟩ := r.priv b hb
    exact ⟨by rw [le.ψ]; exact p, (hp b hb).1, by rw [le.fs]; exact x, (hp b hb).2⟩
  · obtain ⟨o, e⟩ := r.there b hb
    exact ⟨o, k b o (.inl (List.mem_cons_of_mem _ hb)) e⟩
theorem Rel.keeps {G : GG} {F : Fm} {W : Wd} {ρ : Rho} {μ : Mu} {s : Shared} (R : Rel G F W ρ μ s) {h' : Heap} {t : Nat} (k : ∀ b o, s.heap.get? b = some o → h'.get? b = some o) : Rel G F W ρ μ { s with heap := h', toks := t } :=
  R.ofW (R.wr.keeps k) (.refl W) (fun b o zz e => k b o e) fun b hb => ⟨(R.priv b hb).2.1, (R.priv b hb).2.2.2⟩
theorem Rel.toks {G : GG} {F : Fm} {W : Wd} {ρ : Rho} {μ : Mu} {s : Shared} (R : Rel G F W ρ μ s) (t : Nat) : Rel G F W ρ μ { s with toks := t } := R.keeps fun zz zz e => e
section
set_option genInjectivity false
set_option genSizeOf false
inductive Bop | add | sub | mul | fdiv | mod | shr
inductive Cop | eq | ne | lt | le | gt | ge | isin | notin | is | isnot
inductive Bi | len | min | max | sorted | sum | abs | bytes | ord | str | isinstance | issubclass | type | bad
inductive Me | append | pop | startswith | endswith | rfind | rstrip | split | join | decode | read | bad
inductive PE where
  | bad | int (i : Int) | str (s : List Nat) | none | bool (b : Bool) | loc (i : Nat) | ty (n : String)
  | bin (o : Bop) (a b : PE) | not (a : PE) | and (a b : PE) | or (a b : PE) | cmp (o : Cop) (a b : PE) | ite (c a b : PE)
  | call (f : Fn) (args : List PE) | bi (b : Bi) (args : List PE) | me (m : Me) (o : PE) (args : List PE)
  | idx (o i : PE) | sfrom (o lo : PE) | sto (o hi : PE) | sbet (o lo hi : PE) | sstep (o lo st : PE)
  | list (m : Bool) (es : List PE) | tup (es : List PE)
  | lc (m : Bool) (elt : PE) (cap : List (Option Nat)) (tgt : Nat) (rng : Bool) (it : PE) (ifs : List PE)
  | tmap (f : Fn) (e : PE)
noncomputable def varsOf (sc : List (Str × NameKind)) : List Str := (sc.filter fun x => x.2 == .local || x.2 == .cell || x.2 == .free).map (·.1)
noncomputable def placeFrom (x : Str) : List Str → Nat → Option Nat
  | [], _ => none
  | y :: r, n => if x = y then some n else placeFrom x r (n + 1)
noncomputable def place (x : Str) (l : List Str) : Option Nat := placeFrom x l 0
noncomputable def biNames : List (Str × Bi) := [("len", .len), ("min", .min), ("max", .max), ("sorted", .sorted), ("sum", .sum), ("abs", .abs), ("bytes", .bytes), ("ord", .ord), ("str", .str), ("isinstance", .isinstance), ("issubclass", .issubclass), ("type", .type)]
noncomputable def tyNames : List (Str × String) := [("str", "str"), ("bytes", "bytes")]
noncomputable def meNames : List (Str × Me) := [("append", .append), ("pop", .pop), ("startswith", .startswith), ("endswith", .endswith), ("rfind", .rfind), ("rstrip", .rstrip), ("split", .split), ("join", .join), ("decode", .decode), ("read", .read)]
noncomputable def trOp : Operator → Option Bop
  | .Add => some .add | .Sub => some .sub | .Mult => some .mul | .FloorDiv => some .fdiv | .Mod => some .mod | .RShift => some .shr | _ => none
noncomputable def trCmp : CmpOp → Cop
  | .Eq => .eq | .NotEq => .ne | .Lt => .lt | .LtE => .le | .Gt => .gt | .GtE => .ge | .Is => .is | .IsNot => .isnot | .In => .isin | .NotIn => .notin
noncomputable abbrev Sc := List (Str × NameKind)
noncomputable def globalIn (sc : Sc) (x : Str) : Bool := sc.lookup x == some .globalImplicit
noncomputable def capOf (sc inner : Sc) : List (Option Nat) := (varsOf inner).map fun x => if inner.lookup x == some .free then place x (varsOf sc) else none
noncomputable def compOk (sc inner : Sc) (x : Str) : Bool :=
  inner.all (fun y => y.2 != .cell && (y.2 != .local || inner.lookup y.1 == some .local) && (y.2 != .free || inner.lookup y.1 == some .free && (place y.1 (varsOf sc)).isSome && (sc.lookup y.1 == some .cell || sc.lookup y.1 == some .free))) && inner.lookup x == some .local
    && decide (varsOf inner).Nodup
noncomputable def plainB : Expr → Bool
  | .Starred _ _ => false
  | _ => true
noncomputable def callLike : Expr → Bool
  | .Call _ _ _ _ => true
  | _ => false
noncomputable def setLike : Expr → Bool
  | .Set _ _ _ => true
  | _ => false
noncomputable def asName : Expr → Option Str
  | .Name x _ => some x
  | _ => none
noncomputable def when (c : Bool) (e : PE) : PE := match c with
  | true => e
  | false => .bad
noncomputable def constPE : Const → PE
  | .int i => .int i
  | .str s => when (decide (s.cps.size ≤ big)) (.str s.cps.toList)
  | .none => .none
  | .bool b => .bool b
  | _ => .bad
noncomputable def tyPE : Option String → PE
  | some n => .ty n
  | none => .bad
noncomputable def namePE (sc : Sc) (x : Str) : Option Nat → PE
  | some i => .loc i
  | none => when (globalIn sc x) (tyPE (tyNames.lookup x))
noncomputable def binPE (o : Option Bop) (a b : PE) : PE := match o with
  | some o => .bin o a b
  | none => .bad
section
variable (rec : Sc → Nat → Expr → PE)
noncomputable def notPE (sc : Sc) (x : Expr) : UnaryOp → PE
  | .Not => .not (rec sc 0 x)
  | _ => .bad
noncomputable def boolPE (op : BoolOp) (a b : PE) : PE := match op with
  | .And => .and a b
  | .Or => .or a b
noncomputable def bool2 (sc : Sc) (op : BoolOp) : List Expr → PE
  | [] => .bad
  | a :: r => match r with
    | [] => .bad
    | b :: r => match r with
      | [] => boolPE op (rec sc 0 a) (rec sc 0 b)
      | _ :: _ => .bad
noncomputable def cmp1 (sc : Sc) (l : Expr) (op : CmpOp) : List Expr → PE
  | [] => .bad
  | b :: r => match r with
    | [] => when (!behindInMarks op b) (.cmp (trCmp op) (rec sc 0 l) (rec sc 0 b))
    | _ :: _ => .bad
noncomputable def cmpPE (sc : Sc) (l : Expr) (rs : List Expr) : List CmpOp → PE
  | [] => .bad
  | op :: r => match r with
    | [] => cmp1 rec sc l op rs
    | _ :: _ => .bad
noncomputable def mePE (sc : Sc) (o : Expr) (apos : Pos) (args : List Expr) (pos : Pos) : Option Me → PE
  | some m => when (apos.endLine == pos.line && decide (args.length < 20) && !callLike o && args.all plainB) (.me m (rec sc 0 o) (args.map (rec sc 0)))
  | none => .bad
noncomputable def map2 (sc : Sc) (x : Str) (f : Option Fn) (e : Expr) : PE := match f with
  | some g => when (x == ("map" : Str) && globalIn sc x && (place x (varsOf sc)).isNone && plainB e) (.tmap g (rec sc 0 e))
  | none => .bad
noncomputable def map1 (sc : Sc) (x : Option Str) (f e : Expr) : PE := match x with
  | some x => match asName f with
    | some f => when (globalIn sc f && (place f (varsOf sc)).isNone) (map2 rec sc x (fnNames.lookup f) e)
    | none => .bad
  | none => .bad
noncomputable def mapArgs (sc : Sc) (x : Option Str) : List Expr → PE
  | [] => .bad
  | f :: r => match r with
    | [] => .bad
    | e :: r => match r with
      | [] => map1 rec sc x f e
      | _ :: _ => .bad
noncomputable def mapPE (sc : Sc) : List Expr → PE
  | [] => .bad
  | a :: r => match r with
    | [] => (match a with
      | .Call mp as kw _ => when kw.isEmpty (mapArgs rec sc (asName mp) as)
      | _ => .bad)
    | _ :: _ => .bad
noncomputable def biPE (sc : Sc) (f : Str) (args : List Expr) : Option Bi → PE
  | some b => .bi b (args.map (rec sc 0))
  | none => when (f == ("tuple" : Str)) (mapPE rec sc args)
noncomputable def fnPE (sc : Sc) (f : Str) (args : List Expr) : Option Fn → PE
  | some g => .call g (args.map (rec sc 0))
  | none => biPE rec sc f args (biNames.lookup f)
noncomputable def callPE (sc : Sc) (args : List Expr) (pos : Pos) : Expr → PE
  | .Attribute o name apos => mePE rec sc o apos args pos (meNames.lookup name)
  | .Name f _ => when (globalIn sc f && (place f (varsOf sc)).isNone && args.all plainB && !args.isEmpty) (fnPE rec sc f args (fnNames.lookup f))
  | _ => .bad
noncomputable def slicePE (sc : Sc) (o : Expr) (lo hi st : Option Expr) : PE := match lo with
  | some lo => (match hi with
    | some hi => (match st with
      | some _ => .bad
      | none => .sbet (rec sc 0 o) (rec sc 0 lo) (rec sc 0 hi))
    | none => (match st with
      | some st => .sstep (rec sc 0 o) (rec sc 0 lo) (rec sc 0 st)
      | none => .sfrom (rec sc 0 o) (rec sc 0 lo)))
  | none => (match hi with
    | some hi => (match st with
      | some _ => .bad
      | none => .sto (rec sc 0 o) (rec sc 0 hi))
    | none => .bad)
noncomputable def subPE (sc : Sc) (o : Expr) (i : Expr) : PE := match i with
  | .Slice lo hi st _ => slicePE rec sc o lo hi st
  | _ => .idx (rec sc 0 o) (rec sc 0 i)
noncomputable def callArg1 (sc : Sc) (n : Str) (x : Option Str) (es : List Expr) : Option Expr := match x with
  | some x => if (x == n && globalIn sc n && (place n (varsOf sc)).isNone && es.all plainB) = true then (match es with
    | [] => none
    | e :: r => match r with
      | [] => some e
      | _ :: _ => none) else none
  | none => none
noncomputable def callArg (n : Str) (sc : Sc) : Expr → Option Expr
  | .Call f es kw _ => if kw.isEmpty = true then callArg1 sc n (asName f) es else none
  | _ => none
noncomputable abbrev rangeArg (sc : Sc) : Expr → Option Expr := callArg "range" sc
noncomputable def srcPE (sc : Sc) (it : Expr) (K : Bool → PE → PE) : PE := match rangeArg sc it with
  | some e => K true (rec sc 0 e)
  | none => K false (rec sc 0 it)
noncomputable def lcPE (sc : Sc) (m : Nat) (elt : Expr) (it : Expr) (ifs : List Expr) (inner : Sc) : Option Nat → PE
  | some t => when (decide (ifs.length ≤ 1)) <| srcPE rec sc it fun rng p => .lc (m == 1) (rec inner 0 elt) (capOf sc inner) t rng p (ifs.map (rec inner 0))
  | none => .bad
noncomputable def comp1 (sc inner : Sc) (k : ScopeKind) (g : Comprehension) (K : Option Nat → PE) : PE := match asName g.target with
  | some x => when (compOk sc inner x && k == .function && g.is_async == 0 && !setLike g.iter) (K (place x (varsOf inner)))
  | none => .bad
noncomputable def lcGens (sc : Sc) (m : Nat) (elt : Expr) (inner : Scope) : List Comprehension → PE
  | [] => .bad
  | g :: r => match r with
    | [] => comp1 sc inner.names inner.kind g (lcPE rec sc m elt g.iter g.ifs inner.names)
    | _ :: _ => .bad
noncomputable def stepE (sc : Sc) (m : Nat) : Expr → PE
  | .Constant c _ _ => constPE c
  | .Name x _ => when (!(x == ("__debug__" : Str)) && !(x == ("__classdict__" : Str))) (namePE sc x (place x (varsOf sc)))
  | .BinOp l op r _ => binPE (trOp op) (rec sc 0 l) (rec sc 0 r)
  | .UnaryOp op x _ => notPE rec sc x op
  | .BoolOp op es _ => bool2 rec sc op es
  | .Compare l ops rs _ => cmpPE rec sc l rs ops
  | .IfExp c a b _ => .ite (rec sc 0 c) (rec sc 0 a) (rec sc 0 b)
  | .Call f args kw pos => when kw.isEmpty (callPE rec sc args pos f)
  | .Subscript o i _ => subPE rec sc o i
  | .List es _ => when (es.all plainB) (.list (m == 1) (es.map (rec sc (m - 1))))
  | .Tuple es _ _ => when (es.all plainB) (.tup (es.map (rec sc 0)))
  | .ListComp elt gens inner _ => lcGens rec sc m elt inner gens
  | _ => .bad
end
noncomputable def trE : Nat → Sc → Nat → Expr → PE
  | 0 => fun zz zz zz => .bad
  | n + 1 => stepE (trE n)
end
section
open Classical
inductive Sh where
  | int | str | list (s : Sh) | tup (l : List Sh)
mutual
noncomputable def Has : Sh → D → Prop
  | .int, .int _ => True
  | .str, .str _ => True
  | .list s, .list l => ∀ d ∈ l, Has s d
  | .tup ss, .tup l => HasAll ss l
  | _, _ => False
noncomputable def HasAll : List Sh → List D → Prop
  | [], [] => True
  | s :: ss, d :: ds => Has s d ∧ HasAll ss ds
  | _, _ => False
end
mutual
noncomputable def Sh.dp : Sh → Nat
  | .int => 0
  | .str => 0
  | .list s => s.dp + 1
  | .tup l => Sh.dps l + 1
noncomputable def Sh.dps : List Sh → Nat
  | [] => 0
  | s :: ss => max s.dp (Sh.dps ss)
end
noncomputable def ltN : List Nat → List Nat → Bool
  | [], [] => false
  | [], _ :: _ => true
  | _ :: _, [] => false
  | a :: r, b :: q => if a = b then ltN r q else decide (a < b)
noncomputable def ltL : List (List Nat) → List (List Nat) → Bool
  | [], [] => false
  | [], _ :: _ => true
  | _ :: _, [] => false
  | a :: r, b :: q => if a = b then ltL r q else ltN a b
noncomputable abbrev strsD (l : List (List Nat)) : D := .list (l.map .str)
noncomputable abbrev namesD (l : List (List (List Nat))) : D := .list (l.map strsD)
noncomputable def textN (n : Int) : List Nat := (Str.ofString (toString n)).cps.toList
noncomputable def splitN (c : Nat) : List Nat → List (List Nat)
  | [] => [[]]
  | a :: r => if a = c then [] :: splitN c r else match splitN c r with
    | [] => [[a]]
    | x :: q => (a :: x) :: q
noncomputable def joinN (sep : List Nat) : List (List Nat) → List Nat
  | [] => []
  | [x] => x
  | x :: y :: r => x ++ sep ++ joinN sep (y :: r)
noncomputable def rfindN (c : Nat) : List Nat → Option Nat
  | [] => none
  | a :: r => match rfindN c r with
    | some i => some (i + 1)
    | none => if a = c then some 0 else none
noncomputable def rstripN (c : Nat) (s : List Nat) : List Nat := (s.reverse.dropWhile (· == c)).reverse
noncomputable def asI (d : D) (K : Int → Prop) : Prop := match d with
  | .int x => K x
  | _ => False
noncomputable def asS (d : D) (K : List Nat → Prop) : Prop := match d with
  | .str x => K x
  | _ => False
noncomputable def asB (d : D) (K : List UInt8 → Prop) : Prop := match d with
  | .bytes x => K x
  | _ => False
noncomputable def asL (d : D) (K : List D → Prop) : Prop := match d with
  | .list x => K x
  | _ => False
noncomputable def asT (d : D) (K : List D → Prop) : Prop := match d with
  | .tup x => K x
  | _ => False
noncomputable def one (ds : List D) (K : D → Prop) : Prop := match ds with
  | [d] => K d
  | _ => False
theorem asIE {d : D} {K : Int → Prop} (h : asI d K) : ∃ x, d = .int x ∧ K x := by cases d <;> first | exact ⟨_, rfl, h⟩ | exact h.elim
theorem asSE {d : D} {K : List Nat → Prop} (h : asS d K) : ∃ x, d = .str x ∧ K x := by cases d <;> first | exact ⟨_, rfl, h⟩ | exact h.elim
theorem asBE {d : D} {K : List UInt8 → Prop} (h : asB d K) : ∃ x, d = .bytes x ∧ K x := by cases d <;> first | exact ⟨_, rfl, h⟩ | exact h.elim
theorem asLE {d : D} {K : List D → Prop} (h : asL d K) : ∃ x, d = .list x ∧ K x := by cases d <;> first | exact ⟨_, rfl, h⟩ | exact h.elim
theorem asTE {d : D} {K : List D → Prop} (h : asT d K) : ∃ x, d = .tup x ∧ K x := by cases d <;> first | exact ⟨_, rfl, h⟩ | exact h.elim
theorem oneE {ds : List D} {K : D → Prop} (h : one ds K) : ∃ d, ds = [d] ∧ K d := by
  cases ds with
  | nil => exact h.elim
  | cons d r => cases r with
    | nil => exact ⟨d, rfl, h⟩
    | cons _ _ => exact h.elim
noncomputable def wordsD (x y : Int) : List Nat := (Str.ofString "expected ").cps.toList ++ textN x ++ (Str.ofString " bytes in a string1, but only ").cps.toList ++ textN y ++ (Str.ofString " remain").cps.toList
noncomputable def addD (a b : D) (K : D → Prop) : Prop := match a with
  | .int x => asI b fun y => K (.int (x + y))
  | .str x => asS b fun y => x.length + y.length ≤ big ∧ K (.str (x ++ y))
  | .list x => asL b fun y => x.length + y.length ≤ big ∧ K (.list (x ++ y))
  | _ => False
noncomputable def mulD (a b : D) (K : D → Prop) : Prop := match a with
  | .int x => asI b fun y => (x.natAbs < 2 ^ 60 ∧ y.natAbs < 2 ^ 60) ∧ K (.int (x * y))
  | .str s => asI b fun n => ∃ c, s = [c] ∧ (0 ≤ n ∧ n ≤ big) ∧ K (.str (List.replicate n.toNat c))
  | _ => False
noncomputable def modD (a b : D) (K : D → Prop) : Prop := match a with
  | .int x => asI b fun y => 0 < y ∧ K (.int (x % y))
  | .str f => asT b fun l => ∃ x y, l = [.int x, .int y] ∧ (f = (Str.ofString "expected %d bytes in a string1, but only %d remain").cps.toList ∧ (0 ≤ x ∧ x < 1000000000) ∧ 0 ≤ y ∧ y < 1000000000) ∧ K (.str (wordsD x y))
  | _ => False
noncomputable def vcBin (o : Bop) (a b : D) (K : D → Prop) : Prop := match o with
  | .add => addD a b K
  | .sub => asI a fun x => asI b fun y => K (.int (x - y))
  | .mul => mulD a b K
  | .fdiv => asI a fun x => asI b fun y => (0 < y ∧ y < 1073741824) ∧ K (.int (x / y))
  | .mod => modD a b K
  | .shr => asI a fun x => asI b fun y => (y = 1 ∧ 0 ≤ x) ∧ K (.int (x / 2))
noncomputable def augD (a b : D) (K : D → Prop) : Prop := match a with
  | .int x => asI b fun y => K (.int (x + y))
  | .str x => asS b fun y => x.length + y.length ≤ big ∧ K (.str (x ++ y))
  | _ => False
noncomputable def vcAug (o : Bop) (a b : D) (K : D → Prop) : Prop := match o with
  | .add => augD a b K
  | .fdiv => asI a fun x => asI b fun y => (0 < y ∧ y < 1073741824) ∧ K (.int (x / y))
  | _ => False
noncomputable def getMu (μ : Mu) (i : Nat) (K : List D → Prop) : Prop := match μ[i]? with
  | some o => (match o with
    | some l => K l
    | none => False)
  | none => False
noncomputable def headD (n : List (List Nat)) (i : Int) (m : Int) (p : List Nat) : D := .list [strsD n, .int i, .int m, .str p]
noncomputable def eqD (a b : D) (K : Bool → Prop) : Prop := match a with
  | .int x => asI b fun y => K (decide (x = y))
  | .str x => asS b fun y => K (decide (x = y))
  | .bytes x => asB b fun y => K (decide (x = y))
  | .tup x => asT b fun y => (∃ sh, Has sh (.tup x) ∧ Has sh (.tup y) ∧ sh.dp ≤ 100) ∧ K (decide (x = y))
  | _ => False
noncomputable def neD (a b : D) (K : Bool → Prop) : Prop := match a with
  | .int x => asI b fun y => K (decide (x ≠ y))
  | .str x => asS b fun y => K (decide (x ≠ y))
  | .bytes x => asB b fun y => K (decide (x ≠ y))
  | _ => False
noncomputable def ltD (a b : D) (K : Bool → Prop) : Prop := match a with
  | .int x => asI b fun y => K (decide (x < y))
  | .list x => asL b fun y => ∃ n i m p n' i' m' p', headD n i m p = .list x ∧ headD n' i' m' p' = .list y ∧ (n = n' → i ≠ i') ∧ ∀ c, c = (if n = n' then decide (i < i') else ltL n n') → K c
  | _ => False
noncomputable def inD (y : D) (μ : Mu) (K : List D → Prop) : Prop := match y with
  | .tup y => K y
  | .list y => K y
  | .mut i => getMu μ i K
  | _ => False
noncomputable def isND (a b : D) (K : Bool → Prop) : Prop := match b with
  | .none => match a with
    | .none => K true
    | .list _ => K false
    | _ => False
  | _ => False
noncomputable def vcCmp (o : Cop) (a b : D) (μ : Mu) (K : D → Prop) : Prop := match o with
  | .eq => eqD a b fun c => K (.bool c)
  | .ne => neD a b fun c => K (.bool c)
  | .lt => ltD a b fun c => K (.bool c)
  | .le => asI a fun x => asI b fun y => K (.bool (decide (x ≤ y)))
  | .gt => asI a fun x => asI b fun y => K (.bool (decide (y < x)))
  | .ge => asI a fun x => asI b fun y => K (.bool (decide (y ≤ x)))
  | .isin => inD b μ fun y => (∃ sh, Has sh a ∧ (∀ d ∈ y, Has sh d) ∧ sh.dp ≤ 100) ∧ K (.bool (decide (a ∈ y)))
  | .notin => inD b μ fun y => (∃ sh, Has sh a ∧ (∀ d ∈ y, Has sh d) ∧ sh.dp ≤ 100) ∧ K (.bool (decide (a ∉ y)))
  | .is => isND a b fun c => K (.bool c)
  | .isnot => isND a b fun c => K (.bool !c)
noncomputable def vcTruth (d : D) (μ : Mu) (K : Bool → Prop) : Prop := match d with
  | .none => K false
  | .bool b => K b
  | .str s => K (decide (s ≠ []))
  | .bytes s => K (decide (s ≠ []))
  | .list s => K (decide (s ≠ []))
  | .tup s => K (decide (s ≠ []))
  | .mut i => getMu μ i fun s => K (decide (s ≠ []))
  | _ => False
noncomputable def atD (l : List D) (n : Int) (K : D → Prop) : Prop := 0 ≤ n ∧ match l[n.toNat]? with
  | some d => K d
  | none => False
noncomputable def idxD (o : D) (n : Int) (μ : Mu) (K : D → Prop) : Prop := match o with
  | .list l => atD l n K
  | .tup l => atD l n K
  | .mut m => getMu μ m fun l => atD l n K
  | .bytes b => 0 ≤ n ∧ match b[n.toNat]? with
    | some x => K (.int x.toNat)
    | none => False
  | _ => False
noncomputable def vcIdx (o i : D) (μ : Mu) (K : D → Prop) : Prop := asI i fun n => idxD o n μ K
noncomputable def fromD (o : D) (n : Int) (K : D → Prop) : Prop := match o with
  | .str s => (0 ≤ n ∧ n ≤ s.length) ∧ K (.str (s.drop n.toNat))
  | .list s => (0 ≤ n ∧ n ≤ big) ∧ K (.list (s.drop n.toNat))
  | _ => False
noncomputable def vcFrom (o lo : D) (K : D → Prop) : Prop := asI lo fun n => fromD o n K
noncomputable def toD (o : D) (n : Int) (K : D → Prop) : Prop := match o with
  | .str s => (0 ≤ n ∧ n ≤ s.length) ∧ K (.str (s.take n.toNat))
  | .list s => (0 ≤ n ∧ n ≤ big) ∧ K (.list (s.take n.toNat))
  | .bytes s => (0 ≤ n ∧ n ≤ s.length) ∧ K (.bytes (s.take n.toNat))
  | _ => False
noncomputable def vcTo (o hi : D) (K : D → Prop) : Prop := asI hi fun n => toD o n K
noncomputable def vcBet (o lo hi : D) (K : D → Prop) : Prop := asB o fun s => asI lo fun n => asI hi fun m => (0 ≤ n ∧ n ≤ m ∧ m ≤ s.length) ∧ K (.bytes ((s.drop n.toNat).take (m - n).toNat))
noncomputable def vcStep (o lo st : D) (K : D → Prop) : Prop := asL o fun s => asI lo fun n => asI st fun k => (0 < k ∧ s.length ≤ 1000) ∧ ∀ l', (∀ d ∈ l', d ∈ s) → l'.length ≤ 1000 → K (.list l')
noncomputable def intsD (l : List Int) : List D := l.map .int
noncomputable def vcSorted (l : List D) (K : D → Prop) : Prop := ∃ ns : List (List (List Nat)), l = ns.map strsD ∧ ns.length < 64 ∧ (∀ n ∈ ns, n.length ≤ 1000) ∧ ∀ ns' : List (List (List Nat)), ns'.Perm ns → ns'.Pairwise (fun a b => ltL b a = false) → K (namesD ns')
noncomputable def lenD (d : D) (μ : Mu) (K : Nat → Prop) : Prop := match d with
  | .list l => K l.length
  | .str l => K l.length
  | .bytes l => K l.length
  | .mut i => getMu μ i fun l => K l.length
  | _ => False
noncomputable def listD (d : D) (μ : Mu) (K : List D → Prop) : Prop := match d with
  | .list l => K l
  | .mut i => getMu μ i K
  | _ => False
noncomputable def minD (ds : List D) (K : D → Prop) : Prop := match ds with
  | [d] => asL d fun l => ∃ n m, l = [strsD n, strsD m] ∧ K (if ltL m n = true then strsD m else strsD n)
  | [a, b] => asI a fun x => asI b fun y => K (.int (min x y))
  | _ => False
noncomputable def vcBi (b : Bi) (ds : List D) (μ : Mu) (K : D → Prop) : Prop := match b with
  | .len => one ds fun d => lenD d μ fun n => K (.int n)
  | .min => minD ds K
  | .max => one ds fun d => asL d fun l => ∃ n m, l = [strsD n, strsD m] ∧ K (if ltL n m = true then strsD m else strsD n)
  | .sorted => one ds fun d => listD d μ fun l => vcSorted l K
  | .sum => one ds fun d => asL d fun l => ∃ ns : List Int, l = intsD ns ∧ K (.int ns.sum)
  | .abs => one ds fun d => asI d fun x => K (.int x.natAbs)
  | .bytes => one ds fun d => asL d fun l => ∃ ns : List UInt8, l = ns.map (fun b => .int b.toNat) ∧ ns.length ≤ big ∧ K (.bytes ns)
  | .ord => one ds fun d => asS d fun s => ∃ c : Nat, s = [c] ∧ K (.int c)
  | .str => one ds fun d => asI d fun n => (0 ≤ n ∧ n < 1000000000) ∧ K (.str (textN n))
  | .isinstance => ∃ s, ds = [.str s, .ty "bytes"] ∧ K (.bool false)
  | .issubclass => ds = [.ty "str", .tup [.ty "str", .ty "bytes"]] ∧ K (.bool true)
  | .type => one ds fun d => asS d fun zz => K (.ty "str")
  | .bad => False
noncomputable def meOk (k : Nat) (m : Me) (x : D) : Prop := match m with
  | .append => ∃ i, x = .mut i
  | .pop => ∃ i, x = .mut i
  | .decode => ∃ b, x = .bytes b
  | .read => 2 ≤ k ∧ ∃ b i, x = .strm b i
  | .bad => False
  | _ => ∃ s, x = .str s
noncomputable def asM (d : D) (K : Nat → Prop) : Prop := match d with
  | .mut i => K i
  | _ => False
theorem asME {d : D} {K : Nat → Prop} (h : asM d K) : ∃ x, d = .mut x ∧ K x := by cases d <;> first | exact ⟨_, rfl, h⟩ | exact h.elim
noncomputable def oneS (ds : List D) (K : List Nat → Prop) : Prop := one ds fun d => asS d K
theorem oneSE {ds : List D} {K : List Nat → Prop} (h : oneS ds K) : ∃ s, ds = [.str s] ∧ K s := by
  obtain ⟨d, rfl, h⟩ := oneE h
  obtain ⟨s, rfl, h⟩ := asSE h
  exact ⟨s, rfl, h⟩
noncomputable def posOf (o : Option Nat) : Int := match o with
  | some i => (i : Int)
  | none => -1
noncomputable def vcMe (m : Me) (o : D) (ds : List D) (μ : Mu) (K : D → Mu → Prop) : Prop := match m with
  | .append => asM o fun i => one ds fun d => getMu μ i fun l => l.length < 1000000 ∧ K .none (μ.set i (some (l ++ [d])))
  | .pop => asM o fun i => ds = [] ∧ getMu μ i fun l => l ≠ [] ∧ ∀ d, l.getLast? = some d → K d (μ.set i (some l.dropLast))
  | .startswith => asS o fun s => oneS ds fun p => K (.bool (p.isPrefixOf s)) μ
  | .endswith => asS o fun s => oneS ds fun p => K (.bool (p.isSuffixOf s)) μ
  | .rfind => asS o fun s => oneS ds fun p => ∃ c, p = [c] ∧ K (.int (posOf (rfindN c s))) μ
  | .rstrip => asS o fun s => oneS ds fun p => ∃ c, p = [c] ∧ K (.str (rstripN c s)) μ
  | .split => asS o fun s => oneS ds fun p => ∃ c, p = [c] ∧ s.length ≤ 1000000 ∧ K (.list ((splitN c s).map .str)) μ
  | .join => asS o fun s => one ds fun d => asL d fun l => ∃ xs : List (List Nat), l = xs.map .str ∧ (xs.map List.length).sum + xs.length * s.length ≤ 1000000 ∧ K (.str (joinN s xs)) μ
  | .decode => asB o fun b => oneS ds fun e => e = (Str.ofString "latin-1").cps.toList ∧ (b ≠ [] ∧ b.length ≤ 1000000) ∧ K (.str (b.map (·.toNat))) μ
  | .read => ∃ b i n, o = .strm b i ∧ ds = [.int n] ∧ ∃ p : Nat, μ[i]? = some (some [.int p]) ∧ p ≤ b.length ∧ 0 ≤ n ∧ n ≤ big ∧ b.length ≤ big ∧ K (.bytes ((b.drop p).take n.toNat)) (μ.set i (some [.int (min b.length (p + n.toNat) : Nat)]))
  | .bad => False
end
section
open Classical
structure CA (W : Wd) (k : Nat) (A : Around) : Prop where
  handled : A.handled = none
  depth : A.depth + k ≤ 900
  units : A.units + 8 * k ≤ 9000
  frames : ∃ l, A.frames = some l ∧ ∀ e ∈ l, FrOk W none e
noncomputable def OutW (W : Wd) (a : Addr) : Prop := W.ψ a = none ∧ W.φ a = none ∧ W.fs a = none ∧ a ∉ W.π
noncomputable abbrev CExc (W : Wd) (h : Heap) (e : Addr) (msg : List Nat) : Prop := ExcD (OutW W) true h e msg
inductive COk (G : GG) (W : Wd) (Q : D → Mu → Prop) (v : Value) (s' : Shared) : Prop
  | mk (W' : Wd) (d : D) (μ' : Mu) (le : W.le W') (w : WRel G W' μ' s') (hv : V W'.π W'.φ v d) (q : Q d μ')
inductive CErr (G : GG) (W : Wd) (X : List Nat → Mu → Prop) (x : Value) (s' : Shared) : Prop
  | mk (W' : Wd) (e : Addr) (msg : List Nat) (μ' : Mu) (le : W.le W') (w : WRel G W' μ' s') (hx : x = .ref e) (ex : CExc W' s'.heap e msg) (q : X msg μ')
noncomputable def CPost (G : GG) (W : Wd) (Q : D → Mu → Prop) (X : List Nat → Mu → Prop) (r : Result) (s' : Shared) : Prop := match r with
  | .ok (.ret v) => COk G W Q v s'
  | .ok _ => False
  | .error x => CErr G W X x s'
noncomputable def FnSpec (G : GG) (k : Nat) (f : Fn) (ds : List D) (μ : Mu) (Q : D → Mu → Prop) (X : List Nat → Mu → Prop) : Prop :=
  ∀ W A s vs, CA W k A → WRel G W μ s → Vs W.π W.φ vs ds → codeAny G.M A (.call (.ref (G.fa f)) ⟨vs, []⟩) (CPost G W Q X) s
noncomputable def capRho (ρ : Rho) (cap : List (Option Nat)) : Rho := cap.map fun c => c.bind (look ρ)
noncomputable def seqC {α : Type} (step : D → Mu → (α → Mu → Prop) → Prop) : List D → Mu → (List α → Mu → Prop) → Prop
  | [], μ, K => K [] μ
  | d :: ds, μ, K => step d μ fun a μ' => seqC step ds μ' fun as => K (a :: as)
noncomputable def ifsC (c : PE → Mu → (Bool → Mu → Prop) → Prop) : List PE → Mu → (Bool → Mu → Prop) → Prop
  | [], μ, K => K true μ
  | e :: es, μ, K => c e μ fun t μ' => (t = true → ifsC c es μ' K) ∧ (t = false → K false μ')
noncomputable def itemsOf : D → Option (List D)
  | .list l => some l
  | .tup l => some l
  | .str l => some (l.map fun c => .str [c])
  | _ => none
noncomputable def itemsD' (x : D) (K : List D → Prop) : Prop := match itemsOf x with
  | some ds => K ds
  | none => False
noncomputable def rangeD (n : Int) : List D := (List.range n.toNat).map fun i => .int (i : Nat)
noncomputable def srcD (rng : Bool) (x : D) (K : List D → Prop) : Prop := match rng with
  | true => asI x fun n => (0 ≤ n ∧ n ≤ 1000000) ∧ K (rangeD n)
  | false => itemsD' x K
noncomputable def optsD : List (Option D) → List D
  | [] => []
  | some d :: r => d :: optsD r
  | none :: r => optsD r
noncomputable def callC (G : GG) (k : Nat) (f : Fn) (ds : List D) (μ : Mu) (Q : D → Mu → Prop) (X : List Nat → Mu → Prop) : Prop := match k with
  | 0 => False
  | k + 1 => FnSpec G k f ds μ Q X
mutual
noncomputable def vcE (G : GG) (k : Nat) : PE → Rho → Mu → (D → Mu → Prop) → (List Nat → Mu → Prop) → Prop
  | .int i, ρ, μ, Q, X => Q (.int i) μ
  | .str s, ρ, μ, Q, X => Q (.str s) μ
  | .none, ρ, μ, Q, X => Q .none μ
  | .bool b, ρ, μ, Q, X => Q (.bool b) μ
  | .loc i, ρ, μ, Q, X => match look ρ i with
    | some d => Q d μ
    | none => False
  | .ty n, ρ, μ, Q, X => Q (.ty n) μ
  | .bin o a b, ρ, μ, Q, X => vcE G k a ρ μ (fun x μ₁ => vcE G k b ρ μ₁ (fun y μ₂ => vcBin o x y fun d => Q d μ₂) X) X
  | .cmp o a b, ρ, μ, Q, X => vcE G k a ρ μ (fun x μ₁ => vcE G k b ρ μ₁ (fun y μ₂ => vcCmp o x y μ₂ fun d => Q d μ₂) X) X
  | .ite c a b, ρ, μ, Q, X => vcC G k c ρ μ (fun t μ₁ => (t = true → vcE G k a ρ μ₁ Q X) ∧ (t = false → vcE G k b ρ μ₁ Q X)) X
  | .call f args, ρ, μ, Q, X => vcEs G k args ρ μ (fun ds μ₁ => callC G k f ds μ₁ Q X) X
  | .bi b args, ρ, μ, Q, X => vcEs G k args ρ μ (fun ds μ₁ => vcBi b ds μ₁ fun d => Q d μ₁) X
  | .me m o args, ρ, μ, Q, X => vcE G k o ρ μ (fun x μ₁ => meOk k m x ∧ vcEs G k args ρ μ₁ (fun ds μ₂ => vcMe m x ds μ₂ Q) X) X
  | .idx o i, ρ, μ, Q, X => vcE G k o ρ μ (fun x μ₁ => vcE G k i ρ μ₁ (fun y μ₂ => vcIdx x y μ₂ fun d => Q d μ₂) X) X
  | .sfrom o i, ρ, μ, Q, X => vcE G k o ρ μ (fun x μ₁ => vcE G k i ρ μ₁ (fun y μ₂ => vcFrom x y fun d => Q d μ₂) X) X
  | .sto o i, ρ, μ, Q, X => vcE G k o ρ μ (fun x μ₁ => vcE G k i ρ μ₁ (fun y μ₂ => vcTo x y fun d => Q d μ₂) X) X
  | .sbet o i j, ρ, μ, Q, X => vcE G k o ρ μ (fun x μ₁ => vcE G k i ρ μ₁ (fun y μ₂ => vcE G k j ρ μ₂ (fun z μ₃ => vcBet x y z fun d => Q d μ₃) X) X) X
  | .sstep o i j, ρ, μ, Q, X => vcE G k o ρ μ (fun x μ₁ => vcE G k i ρ μ₁ (fun y μ₂ => vcE G k j ρ μ₂ (fun z μ₃ => vcStep x y z fun d => Q d μ₃) X) X) X
  | .list false es, ρ, μ, Q, X => vcEs G k es ρ μ (fun ds μ₁ => ds.length ≤ big ∧ Q (.list ds) μ₁) X
  | .list true es, ρ, μ, Q, X => vcEs G k es ρ μ (fun ds μ₁ => ds.length ≤ big ∧ Q (.mut μ₁.length) (μ₁ ++ [some ds])) X
  | .tup es, ρ, μ, Q, X => vcEs G k es ρ μ (fun ds μ₁ => ds.length ≤ big ∧ Q (.tup ds) μ₁) X
  | .lc m elt cap t rng it ifs, ρ, μ, Q, X => vcE G k it ρ μ (fun x μ₁ => srcD rng x fun items => items.length ≤ 1000000 ∧
      seqC (fun d μ₂ K => vcIfs G k ifs (put (capRho ρ cap) t (some d)) μ₂ (fun ok μ₃ => (ok = true → vcE G k elt (put (capRho ρ cap) t (some d)) μ₃ (fun y => K (some y)) (fun zz zz => False)) ∧ (ok = false → K none μ₃)) (fun zz zz => False))
        items μ₁ fun ds μ₂ => if m = true then Q (.mut μ₂.length) (μ₂ ++ [some (optsD ds)]) else Q (.list (optsD ds)) μ₂) X
  | .tmap f e, ρ, μ, Q, X => vcE G k e ρ μ (fun x μ₁ => asL x fun ds => ds.length ≤ 1000 ∧ seqC (fun d μ₂ K => callC G k f [d] μ₂ K fun zz zz => False) ds μ₁ fun as μ₂ => Q (.tup as) μ₂) X
  | _, ρ, μ, Q, X => False
noncomputable def vcEs (G : GG) (k : Nat) : List PE → Rho → Mu → (List D → Mu → Prop) → (List Nat → Mu → Prop) → Prop
  | [], ρ, μ, Q, X => Q [] μ
  | e :: es, ρ, μ, Q, X => vcE G k e ρ μ (fun d μ₁ => vcEs G k es ρ μ₁ (fun ds => Q (d :: ds)) X) X
noncomputable def vcIfs (G : GG) (k : Nat) : List PE → Rho → Mu → (Bool → Mu → Prop) → (List Nat → Mu → Prop) → Prop
  | [], ρ, μ, Q, X => Q true μ
  | e :: es, ρ, μ, Q, X => vcC G k e ρ μ (fun t μ₁ => (t = true → vcIfs G k es ρ μ₁ Q X) ∧ (t = false → Q false μ₁)) X
noncomputable def vcC (G : GG) (k : Nat) : PE → Rho → Mu → (Bool → Mu → Prop) → (List Nat → Mu → Prop) → Prop
  | .not a, ρ, μ, Q, X => vcC G k a ρ μ (fun t => Q (!t)) X
  | .and a b, ρ, μ, Q, X => vcC G k a ρ μ (fun t μ₁ => (t = true → vcC G k b ρ μ₁ Q X) ∧ (t = false → Q false μ₁)) X
  | .or a b, ρ, μ, Q, X => vcC G k a ρ μ (fun t μ₁ => (t = true → Q true μ₁) ∧ (t = false → vcC G k b ρ μ₁ Q X)) X
  | .cmp o a b, ρ, μ, Q, X => vcE G k a ρ μ (fun x μ₁ => vcE G k b ρ μ₁ (fun y μ₂ => vcCmp o x y μ₂ fun d => vcTruth d μ₂ fun t => Q t μ₂) X) X
  | .loc i, ρ, μ, Q, X => match look ρ i with
    | some d => vcTruth d μ fun t => Q t μ
    | none => False
  | .bool b, ρ, μ, Q, X => Q b μ
  | .bi b args, ρ, μ, Q, X => vcEs G k args ρ μ (fun ds μ₁ => vcBi b ds μ₁ fun d => vcTruth d μ₁ fun t => Q t μ₁) X
  | .me m o args, ρ, μ, Q, X => vcE G k o ρ μ (fun x μ₁ => meOk k m x ∧ vcEs G k args ρ μ₁ (fun ds μ₂ => vcMe m x ds μ₂ fun d μ₃ => vcTruth d μ₃ fun t => Q t μ₃) X) X
  | _, ρ, μ, Q, X => False
end
end
section
variable {G : GG} {F : Fm} {k : Nat} {ρ : Rho} {μ : Mu} {W : Wd} {s : Shared} {A : Around}
theorem PQ.val {Q : D → Rho → Mu → Prop} {v : Value} {d : D} (R : Rel G F W ρ μ s) (hv : V W.π W.φ v d) (h : Q d ρ μ) : PQ G F W RV Q v s := ⟨W, d, ρ, μ, .refl W, R, hv, h⟩
theorem PQ.b {Q : Bool → Rho → Mu → Prop} {b : Bool} (R : Rel G F W ρ μ s) (h : Q b ρ μ) : PQ G F W RE Q b s := ⟨W, b, ρ, μ, .refl W, R, rfl, h⟩
theorem none_of_keep {f : PMap} {h : Heap} (k : ∀ a o, f a = some o → h.get? a = some o) {a : Addr} (hn : h.get? a = none) : f a = none := by
  cases e : f a with
  | none => rfl
  | some o => rw [k _ _ e] at hn; cases hn
theorem WRel.notMut (R : WRel G W μ s) {a : Addr} (hn : s.heap.get? a = none) : a ∉ W.π := fun hb => by
  obtain ⟨i, hi⟩ := List.getElem?_of_mem hb
  have h1 := (List.getElem?_eq_some_iff.mp hi).1
  rw [R.len] at h1
  cases e : μ[i] with
  | some ds =>
    refine (R.muts i _ ds hi (by rw [List.getElem?_eq_getElem h1, e])).elim fun zz zz5 => zz5.elim fun zz zz6 => zz6.elim fun h2 zz => ?_
    rw [h2] at hn; cases hn
  | none =>
    refine (R.done i _ hi (by rw [List.getElem?_eq_getElem h1, e])).elim fun o zz7 => zz7.elim fun zz h2 => ?_
    rw [R.φ _ _ h2] at hn; cases hn
theorem WRel.freezeAt (w : WRel G W μ s) {a : Addr} {o : Obj} (h1 : W.ψ a = none) (h2 : W.φ a = none) (h3 : W.fs a = none) (h4 : a ∉ W.π) (ho : s.heap.get? a = some o) : WRel G { W with φ := W.φ.set a o } μ s ∧ W.le { W with φ := W.φ.set a o } := by
  have le : W.le { W with φ := W.φ.set a o } := ⟨rfl, rfl, PMap.le_set h2, .refl _, rfl, fun b h e => PMap.set_none e fun q => by
    subst q
    rcases h with h | h
    · exact h h1
    · exact h h3⟩
  refine ⟨⟨w.gok, w.ground, w.ψ, fun b o' e => ?_, w.fs, w.len, fun i b ds e1 e2 => (w.muts i b ds e1 e2).elim fun us zz1 => zz1.elim fun m zz2 => zz2.elim fun g1 zz3 => zz3.elim fun g2 g3 => ⟨us, m, g1, g2, g3.up le⟩, w.nodup, w.apart, fun i b ds e1 e2 => PMap.set_none (w.live i b ds e1 e2) fun q => h4 (q ▸ List.mem_of_getElem? e1), fun i b e1 e2 => (w.done i b e1 e2).elim fun o zz4 => zz4.elim fun n h => ⟨o, n, le.φ _ _ h⟩, w.tab.move (fun zz e => e) w.tab.ψ (PMap.set_none w.tab.φ (Ne.symm (w.notTab h3))) rfl le.φ, w.rest⟩, le⟩
  rcases PMap.set_some e with ⟨rfl, rfl⟩ | e
  · exact ho
  · exact w.φ _ _ e
theorem WRel.openAt (w : WRel G W μ s) {a : Addr} {vs : Array Value} {n : Nat} {ds : List D} (h1 : W.ψ a = none) (h2 : W.φ a = none) (h3 : W.fs a = none) (h4 : a ∉ W.π) (ho : s.heap.get? a = some (listO vs n)) (hz : vs.size ≤ big) (hv : Vs W.π W.φ vs.toList ds) :
    WRel G { W with π := W.π ++ [a] } (μ ++ [some ds]) s ∧ W.le { W with π := W.π ++ [a] } := by
  have le : W.le { W with π := W.π ++ [a] } := ⟨rfl, rfl, .refl _, fun i b e => by
    show (W.π ++ _)[i]? = _
    rw [List.getElem?_append_left (List.getElem?_eq_some_iff.mp e).1]; exact e, rfl, fun zz zz h => h⟩
  refine ⟨⟨w.gok, w.ground, w.ψ, w.φ, w.fs, by simp [w.len], fun i b es e1 e2 => ?_, ?_, fun b hb => ?_, fun i b es e1 e2 => ?_, fun i b e1 e2 => ?_, w.tab.move (fun zz e => e) w.tab.ψ w.tab.φ rfl (.refl _), w.rest⟩, le⟩
  · change (W.π ++ _)[i]? = _ at e1
    by_cases hi : i < W.π.length
    · rw [List.getElem?_append_left hi] at e1
      rw [List.getElem?_append_left (by rw [← w.len]; exact hi)] at e2
      refine (w.muts i b es e1 e2).elim fun us zz8 => zz8.elim fun m zz9 => zz9.elim fun g1 zz10 => zz10.elim fun g2 g3 => ?_
      exact ⟨us, m, g1, g2, g3.up le⟩
    · rw [List.getElem?_append_right (by exact ar90 hi)] at e1
      rw [List.getElem?_append_right (by rw [← w.len]; exact Nat.le_of_not_lt ‹_›), ← w.len] at e2
      refine (List.getElem?_eq_some_iff.mp e1).elim fun h0 e3 => ?_
      have h0 : i - W.π.length < 1 := h0
      have : i - W.π.length = 0 := by exact ar91 h0
      rw [this] at e1 e2
      cases e1; cases e2
      exact ⟨vs, n, ho, hz, hv.up le⟩
  · show (W.π ++ _).Nodup
    rw [List.nodup_append]
    exact ⟨w.nodup, by simp, fun x hx y hy e => by rw [List.mem_singleton.mp hy] at e; exact h4 (e ▸ hx)⟩
  · change b ∈ W.π ++ _ at hb
    rcases List.mem_append.mp hb with h | h
    · exact w.apart b h
    · rw [List.mem_singleton.mp h]; exact ⟨h1, h3⟩
  · change (W.π ++ _)[i]? = _ at e1
    by_cases hi : i < W.π.length
    · rw [List.getElem?_append_left hi] at e1
      rw [List.getElem?_append_left (by rw [← w.len]; exact hi)] at e2
      exact w.live i b es e1 e2
    · rw [List.getElem?_append_right (by exact ar90 hi)] at e1
      refine (List.getElem?_eq_some_iff.mp e1).elim fun h0 e3 => ?_
      have h0 : i - W.π.length < 1 := h0
      have : i - W.π.length = 0 := by exact ar91 h0
      rw [this] at e1
      cases e1
      exact h2
  · change (W.π ++ _)[i]? = _ at e1
    by_cases hi : i < W.π.length
    · rw [List.getElem?_append_left hi] at e1
      rw [List.getElem?_append_left (by rw [← w.len]; exact hi)] at e2
      exact w.done i b e1 e2
    · rw [List.getElem?_append_right (by rw [← w.len]; exact Nat.le_of_not_lt ‹_›), ← w.len] at e2
      obtain ⟨h0, e3⟩ := List.getElem?_eq_some_iff.mp e2
      have h0 : i - W.π.length < 1 := h0
      have : i - W.π.length = 0 := by exact ar91 h0
      rw [this] at e2
      cases e2
theorem Rel.not_new (R : Rel G F W ρ μ s) {a : Addr} (hn : s.heap.get? a = none) : a ∉ F.env.locals :: F.own := fun h => by
  rcases List.mem_cons.mp h with rfl | h
  · obtain ⟨m, ⟨o, _, _, e, _⟩, _⟩ := R.loc; rw [e] at hn; cases hn
  · obtain ⟨o, e⟩ := R.there a h; rw [e] at hn; cases hn
theorem Rel.freeze (R : Rel G F W ρ μ s) {h' : Heap} {t : Nat} {a : Addr} {o : Obj} (kp : ∀ b o, s.heap.get? b = some o → h'.get? b = some o) (hn : s.heap.get? a = none) (ho : h'.get? a = some o) :
    Rel G F { W with φ := W.φ.set a o } ρ μ { s with heap := h', toks := t } ∧ W.le { W with φ := W.φ.set a o } := by
  refine ((R.wr.keeps (t := t) kp).freezeAt (none_of_keep R.wr.ψ hn) (none_of_keep R.wr.φ hn) (R.wr.fsNone hn) (R.wr.notMut hn) ho).elim fun w le => ?_
  exact ⟨R.ofW w le (fun b o zz e => kp b o e) fun b hb => ⟨PMap.set_none (R.priv b hb).2.1 fun e => R.not_new hn (e ▸ hb), (R.priv b hb).2.2.2⟩, le⟩
noncomputable def Op1 (G : GG) (F : Fm) (k : Nat) {α β : Type} (R : Wd → α → β → Prop) (t : Value → Sem α) (a : D) (ρ : Rho) (μ : Mu) (Q : β → Rho → Mu → Prop) (X : List Nat → Rho → Mu → Prop) : Prop :=
  ∀ W A s v, AOk F W k A → Rel G F W ρ μ s → V W.π W.φ v a → wpAny G.M A (t v) (PQ G F W R Q) (PX G F W X) s
noncomputable def Op2 (G : GG) (F : Fm) (k : Nat) {α β : Type} (R : Wd → α → β → Prop) (t : Value → Value → Sem α) (a b : D) (ρ : Rho) (μ : Mu) (Q : β → Rho → Mu → Prop) (X : List Nat → Rho → Mu → Prop) : Prop :=
  ∀ W A s v u, AOk F W k A → Rel G F W ρ μ s → V W.π W.φ v a → V W.π W.φ u b → wpAny G.M A (t v u) (PQ G F W R Q) (PX G F W X) s
theorem r_int {i : Int} {n : Nat} {p : Pos} {Q : D → Rho → Mu → Prop} {X : List Nat → Rho → Mu → Prop} (h : Q (.int i) ρ μ) : WG G F k RV ρ μ (eval (.Constant (.int i) n p) F.env) Q X :=
  fun W A s a r => wpAny_Constant_int (.val (r.toks _) (.int _ _) h)
theorem r_str {x : Str} {n : Nat} {p : Pos} {Q : D → Rho → Mu → Prop} {X : List Nat → Rho → Mu → Prop} (hz : x.cps.size ≤ big) (h : Q (.str x.cps.toList) ρ μ) : WG G F k RV ρ μ (eval (.Constant (.str x) n p) F.env) Q X :=
  fun W A s a r => wpAny_Constant_str (.val (r.toks _) (.str _ _ hz) h)
theorem r_none {n : Nat} {p : Pos} {Q : D → Rho → Mu → Prop} {X : List Nat → Rho → Mu → Prop} (h : Q .none ρ μ) : WG G F k RV ρ μ (eval (.Constant .none n p) F.env) Q X :=
  fun W A s a r => wpAny_Constant_none (.val r .none h)
theorem r_bool {b : Bool} {n : Nat} {p : Pos} {Q : D → Rho → Mu → Prop} {X : List Nat → Rho → Mu → Prop} (h : Q (.bool b) ρ μ) : WG G F k RV ρ μ (eval (.Constant (.bool b) n p) F.env) Q X :=
  fun W A s a r => wpAny_Constant_bool (.val r (.bool b) h)
theorem r_loc {i : Nat} {x : Str} {p : Pos} {d : D} {Q : D → Rho → Mu → Prop} {X : List Nat → Rho → Mu → Prop} (hi : F.vars[i]? = some x) (hd : look ρ i = some d) (hx : (x == ("__debug__" : Str)) = false) (hcd : (x == ("__classdict__" : Str)) = false) (h : Q d ρ μ) : WG G F k RV ρ μ (eval (.Name x p) F.env) Q X :=
  fun W A s a r => by
    refine wpAny_Name ?_ hx
    refine r.loc.elim fun m zz11 => zz11.elim fun hm hv => ?_
    rcases hv i x hi with ⟨hk, f⟩ | ⟨hk, c, o, hc, hcell, f⟩
    · obtain ⟨v, e, hv⟩ := f d hd
      exact wpAny_loadName_local r.ok.kind hk hm e (.val r hv h)
    · obtain ⟨v, rfl, hv⟩ := f d hd
      rcases hk with hk | hk
      · exact wpAny_loadName_cell r.ok.kind hk hc hcell (.val r hv h)
      · exact wpAny_loadName_free r.ok.kind hk hc hcell (.val r hv h) hcd
theorem WRel.gnsAt (R : WRel G W μ s) : s.heap.Ns mainGlobals G.mg := R.gok.gns.keeps fun zz zz e => R.ψ _ _ (R.ground _ _ e)
theorem WRel.bnsAt (R : WRel G W μ s) : s.heap.Ns builtinsNs G.mb := R.gok.bns.keeps fun zz zz e => R.ψ _ _ (R.ground _ _ e)
end
section
variable {G : GG} {F : Fm} {k : Nat} {ρ : Rho} {μ : Mu} {W : Wd} {s : Shared} {A : Around}
theorem sizeLine_big : sizeLine = big := rfl
theorem PQ.new {Q : D → Rho → Mu → Prop} {o : Obj} {d : D} (R : Rel G F W ρ μ s) (hf : o.isFreed = false) (t : Nat)
    (hv : ∀ W', W.le W' → W'.φ s.heap.objs.size = some o → V W'.π W'.φ (.ref s.heap.objs.size) d) (h : Q d ρ μ) : PQ G F W RV Q (.ref s.heap.objs.size) { s with heap := s.heap.push o, toks := t } := by
  have hn : s.heap.get? s.heap.objs.size = none := by
    cases e : s.heap.get? s.heap.objs.size with
    | none => rfl
    | some o => exact absurd (Heap.lt_size e) (Nat.lt_irrefl _)
  refine (R.freeze (t := t) (fun b o e => Heap.get?_push_of_some _ e) hn (Heap.get?_push_size _ hf)).elim fun R' le => ?_
  exact ⟨_, d, ρ, μ, le, R', hv _ le (PMap.set_at _ _ _), h⟩
theorem Vs.length {π : List Addr} {φ : PMap} : ∀ {vs : List Value} {ds : List D}, Vs π φ vs ds → vs.length = ds.length
  | _, _, .nil => rfl
  | _, _, .cons _ r => congrArg (· + 1) r.length
theorem Vs.append {π : List Addr} {φ : PMap} : ∀ {vs us : List Value} {ds es : List D}, Vs π φ vs ds → Vs π φ us es → Vs π φ (vs ++ us) (ds ++ es)
  | _, _, _, _, .nil, h => h
  | _, _, _, _, .cons a r, h => .cons a (r.append h)
theorem Vs.get {π : List Addr} {φ : PMap} : ∀ {vs : List Value} {ds : List D} {i : Nat} {d : D}, Vs π φ vs ds → ds[i]? = some d → ∃ v, vs[i]? = some v ∧ V π φ v d
  | _, _, 0, _, .cons a r, h => by cases h; exact ⟨_, rfl, a⟩
  | _, _, i + 1, _, .cons a r, h => by simpa using r.get (i := i) (by simpa using h)
theorem Vs.drop {π : List Addr} {φ : PMap} : ∀ {vs : List Value} {ds : List D} (n : Nat), Vs π φ vs ds → Vs π φ (vs.drop n) (ds.drop n)
  | _, _, 0, h => h
  | _, _, n + 1, .nil => .nil
  | _, _, n + 1, .cons _ r => r.drop n
theorem Vs.take {π : List Addr} {φ : PMap} : ∀ {vs : List Value} {ds : List D} (n : Nat), Vs π φ vs ds → Vs π φ (vs.take n) (ds.take n)
  | _, _, 0, h => .nil
  | _, _, n + 1, .nil => .nil
  | _, _, n + 1, .cons a r => .cons a (r.take n)
theorem Vs.set {π : List Addr} {φ : PMap} : ∀ {vs : List Value} {ds : List D} (n : Nat) {v : Value} {d : D}, Vs π φ vs ds → V π φ v d → Vs π φ (vs.set n v) (ds.set n d)
  | _, _, 0, _, _, .nil, h => .nil
  | _, _, 0, _, _, .cons _ r, h => .cons h r
  | _, _, n + 1, _, _, .nil, h => .nil
  | _, _, n + 1, _, _, .cons a r, h => .cons a (r.set n h)
noncomputable def Un {α : Type} (ρ : Rho) (Q : α → Mu → Prop) : α → Rho → Mu → Prop := fun d ρ' μ' => ρ' = ρ ∧ Q d μ'
theorem b_add_int {x y : Int} {Q : D → Rho → Mu → Prop} {X} (h : Q (.int (x + y)) ρ μ) : Op2 G F k RV (binaryOp .Add) (.int x) (.int y) ρ μ Q X := fun W A s v u a r hv hu => by
  cases hv; cases hu; exact PyProof.Rows.add_int (.val (r.toks _) (.int _ _) h)
theorem b_sub_int {x y : Int} {Q : D → Rho → Mu → Prop} {X} (h : Q (.int (x - y)) ρ μ) : Op2 G F k RV (binaryOp .Sub) (.int x) (.int y) ρ μ Q X := fun W A s v u a r hv hu => by
  cases hv; cases hu; exact PyProof.Rows.sub_int (.val (r.toks _) (.int _ _) h)
theorem b_iadd_int {x y : Int} {Q : D → Rho → Mu → Prop} {X} (h : Q (.int (x + y)) ρ μ) : Op2 G F k RV (inplaceOp .Add) (.int x) (.int y) ρ μ Q X := fun W A s v u a r hv hu => by
  cases hv; cases hu; exact PyProof.Rows.iadd_int (.val (r.toks _) (.int _ _) h)
theorem intMulOk {x y : Int} (hx : x.natAbs < 2 ^ 60) (hy : y.natAbs < 2 ^ 60) : IntMulOk x y := by
  mul_fits
theorem b_mul_int {x y : Int} {Q : D → Rho → Mu → Prop} {X} (hx : x.natAbs < 2 ^ 60) (hy : y.natAbs < 2 ^ 60) (h : Q (.int (x * y)) ρ μ) : Op2 G F k RV (binaryOp .Mult) (.int x) (.int y) ρ μ Q X := fun W A s v u a r hv hu => by
  cases hv; cases hu; exact PyProof.Rows.mul_int (.val (r.toks _) (.int _ _) h) (intMulOk hx hy)
theorem b_fdiv_int {x y : Int} {Q : D → Rho → Mu → Prop} {X} (h0 : 0 < y) (h1 : y < 1073741824) (h : Q (.int (x / y)) ρ μ) : Op2 G F k RV (binaryOp .FloorDiv) (.int x) (.int y) ρ μ Q X := fun W A s v u a r hv hu => by
  cases hv; cases hu
  refine PyProof.Rows.floordiv_int (by exact ar92 h0) (.val (r.toks _) (.int _ _) ?_) (.inl (PyProof.noPylong_small (by exact ar93 h0 h1)))
  rw [Int.fdiv_eq_ediv_of_nonneg _ (by exact ar94 h0)]; exact h
theorem b_ifdiv_int {x y : Int} {Q : D → Rho → Mu → Prop} {X} (h0 : 0 < y) (h1 : y < 1073741824) (h : Q (.int (x / y)) ρ μ) : Op2 G F k RV (inplaceOp .FloorDiv) (.int x) (.int y) ρ μ Q X := fun W A s v u a r hv hu => by
  cases hv; cases hu
  refine PyProof.Rows.ifloordiv_int (by exact ar92 h0) (.val (r.toks _) (.int _ _) ?_) (.inl (PyProof.noPylong_small (by exact ar93 h0 h1)))
  rw [Int.fdiv_eq_ediv_of_nonneg _ (by exact ar94 h0)]; exact h
theorem b_mod_int {x y : Int} {Q : D → Rho → Mu → Prop} {X} (h0 : 0 < y) (h : Q (.int (x % y)) ρ μ) : Op2 G F k RV (binaryOp .Mod) (.int x) (.int y) ρ μ Q X := fun W A s v u a r hv hu => by
  cases hv; cases hu
  refine PyProof.Rows.mod_int (by exact ar92 h0) (.val (r.toks _) (.int _ _) ?_)
  rw [Int.fmod_eq_emod_of_nonneg _ (by exact ar94 h0)]; exact h
theorem b_shr_int {x : Int} {Q : D → Rho → Mu → Prop} {X} (h0 : 0 ≤ x) (h : Q (.int (x / 2)) ρ μ) : Op2 G F k RV (binaryOp .RShift) (.int x) (.int 1) ρ μ Q X := fun W A s v u a r hv hu => by
  cases hv; cases hu; exact wpAny_rshift1_int h0 (.val (r.toks _) (.int _ _) h)
theorem cps_append (x y : Str) : (x ++ y).cps.toList = x.cps.toList ++ y.cps.toList := by
  show (x.cps ++ y.cps).toList = _
  exact Array.toList_append
theorem V.strE {π : List Addr} {φ : PMap} {v : Value} {l : List Nat} (h : V π φ v (.str l)) : ∃ x t, v = .str x t ∧ x.cps.toList = l := h.inv.elim fun x h => h.elim fun t h => ⟨x, t, h.1, h.2.1⟩
theorem V.strZ {π : List Addr} {φ : PMap} {v : Value} {l : List Nat} (h : V π φ v (.str l)) : l.length ≤ big := by cases h; simpa using ‹_›
theorem V.strI {π : List Addr} {φ : PMap} {x : Str} {t : Tok} {l : List Nat} (h : x.cps.toList = l) (hz : l.length ≤ big) : V π φ (.str x t) (.str l) := by subst h; exact .str x t (by simpa using hz)
theorem len_cps (x : Str) : x.length = x.cps.toList.length := Array.length_toList.symm
theorem b_add_str {x y : List Nat} {Q : D → Rho → Mu → Prop} {X} (hz : x.length + y.length ≤ big) (h : Q (.str (x ++ y)) ρ μ) : Op2 G F k RV (binaryOp .Add) (.str x) (.str y) ρ μ Q X := fun W A s v u a r hv hu => by
  obtain ⟨x, _, rfl, rfl⟩ := hv.strE
  obtain ⟨y, _, rfl, rfl⟩ := hu.strE
  exact PyProof.Rows.add_str (fun t' tk => .val (r.toks _) (.strI (cps_append x y) (by rw [List.length_append]; exact hz)) h) (by rw [len_cps, len_cps]; exact hz)
theorem b_iadd_str {x y : List Nat} {Q : D → Rho → Mu → Prop} {X} (hz : x.length + y.length ≤ big) (h : Q (.str (x ++ y)) ρ μ) : Op2 G F k RV (inplaceOp .Add) (.str x) (.str y) ρ μ Q X := fun W A s v u a r hv hu => by
  obtain ⟨x, _, rfl, rfl⟩ := hv.strE
  obtain ⟨y, _, rfl, rfl⟩ := hu.strE
  exact PyProof.Rows.iadd_str (fun t' tk => .val (r.toks _) (.strI (cps_append x y) (by rw [List.length_append]; exact hz)) h) (by rw [len_cps, len_cps]; exact hz)
theorem V.listE {π : List Addr} {φ : PMap} {v : Value} {l : List D} (h : V π φ v (.list l)) : ∃ a vs n, v = .ref a ∧ φ a = some (listO vs n) ∧ Vs π φ vs.toList l := h.inv.elim fun a h => h.elim fun vs h => h.elim fun n h => ⟨a, vs, n, h.1, h.2.1, h.2.2.1⟩
theorem V.listZ {π : List Addr} {φ : PMap} {v : Value} {l : List D} (h : V π φ v (.list l)) : l.length ≤ big := h.inv.elim fun a h => h.elim fun vs h => h.elim fun n h => h.2.2.1.length ▸ h.2.2.2
theorem V.tupZ {π : List Addr} {φ : PMap} {v : Value} {l : List D} (h : V π φ v (.tup l)) : l.length ≤ big := h.inv.elim fun a h => h.elim fun vs h => h.elim fun n h => h.2.2.1.length ▸ h.2.2.2
theorem V.tupE {π : List Addr} {φ : PMap} {v : Value} {l : List D} (h : V π φ v (.tup l)) : ∃ a vs n, v = .ref a ∧ φ a = some (tupO vs n) ∧ Vs π φ vs.toList l := h.inv.elim fun a h => h.elim fun vs h => h.elim fun n h => ⟨a, vs, n, h.1, h.2.1, h.2.2.1⟩
theorem b_add_list {x y : List D} {Q : D → Rho → Mu → Prop} {X} (hz : x.length + y.length ≤ big) (h : Q (.list (x ++ y)) ρ μ) : Op2 G F k RV (binaryOp .Add) (.list x) (.list y) ρ μ Q X := fun W A s v u a r hv hu => by
  obtain ⟨l, vs, n, rfl, hl, rl⟩ := hv.listE
  obtain ⟨b, us, m, rfl, hb, rb⟩ := hu.listE
  refine P.add_list (r.wr.φ _ _ hl) (r.wr.φ _ _ hb) (.new r rfl s.toks (fun W' le e => .list e ?_ ?_) h) ?_
  · rw [Array.size_append, ← Array.length_toList, ← Array.length_toList, rl.length, rb.length]; exact hz
  · rw [Array.toList_append]; exact (rl.append rb).up le
  · rw [← Array.length_toList, ← Array.length_toList, rl.length, rb.length]; exact hz
theorem foldl_reps (c : Array Nat) : ∀ (n : Nat) (acc : Array Nat), ((List.replicate n c).foldl (· ++ ·) acc).toList = acc.toList ++ (List.replicate n c.toList).flatten
  | 0, acc => by simp
  | n + 1, acc => by rw [List.replicate_succ, List.foldl_cons, foldl_reps c n, List.replicate_succ, List.flatten_cons, Array.toList_append, List.append_assoc]
theorem flatten_one (c : Nat) : ∀ n, (List.replicate n [c]).flatten = List.replicate n c
  | 0 => rfl
  | n + 1 => by rw [List.replicate_succ, List.flatten_cons, flatten_one c n]; rfl
theorem mul_one_sign {x : Str} {c : Nat} {n : Int} (hx : x.cps.toList = [c]) (h0 : 0 ≤ n) : (Txt.mul x n).cps.toList = List.replicate n.toNat c := by
  unfold Txt.mul
  by_cases h1 : n < 1
  · have : n = 0 := by exact ar95 h0 h1
    subst this; rfl
  · rw [if_neg h1]
    by_cases h2 : (n == 1 || x.length == 0) = true
    · rw [if_pos h2]
      have hl : x.length = 1 := by rw [len_cps, hx]; rfl
      have : n = 1 := by rw [hl] at h2; simpa using h2
      subst this; rw [hx]; rfl
    · rw [if_neg h2, foldl_reps, hx, flatten_one]; rfl
theorem b_mul_str {c : Nat} {n : Int} {Q : D → Rho → Mu → Prop} {X} (h0 : 0 ≤ n) (hz : n ≤ big) (h : Q (.str (List.replicate n.toNat c)) ρ μ) : Op2 G F k RV (binaryOp .Mult) (.str [c]) (.int n) ρ μ Q X := fun W A s v u a r hv hu => by
  obtain ⟨x, _, rfl, hx⟩ := hv.strE
  cases hu
  exact SB.mul (mulOk_of 1 big (by rw [len_cps, hx]; exact Nat.le_refl 1) hz (by lia) (by decide) (by decide)) fun t' tk => .val (r.toks _) (.strI (mul_one_sign hx h0) (by rw [List.length_replicate]; exact ar56 hz)) h
end
section
open PySem.SeqAt
open Classical
variable {G : GG} {F : Fm} {k : Nat} {ρ : Rho} {μ : Mu} {W : Wd} {s : Shared} {A : Around}
theorem Has.intE {d : D} (h : Has .int d) : ∃ i, d = .int i := by
  cases d with
  | int i => exact ⟨i, rfl⟩
  | _ => exact h.elim
theorem Has.strE {d : D} (h : Has .str d) : ∃ i, d = .str i := by
  cases d with
  | str i => exact ⟨i, rfl⟩
  | _ => exact h.elim
theorem Has.listE {s : Sh} {d : D} (h : Has (.list s) d) : ∃ l, d = .list l ∧ ∀ x ∈ l, Has s x := by
  cases d with
  | list l => exact ⟨l, rfl, h⟩
  | _ => exact h.elim
theorem Has.tupE {s : List Sh} {d : D} (h : Has (.tup s) d) : ∃ l, d = .tup l ∧ HasAll s l := by
  cases d with
  | tup l => exact ⟨l, rfl, h⟩
  | _ => exact h.elim
theorem V.intE {π : List Addr} {φ : PMap} {v : Value} {i : Int} (h : V π φ v (.int i)) : ∃ t, v = .int i t := h.inv
theorem Vs.oneOf {π : List Addr} {φ : PMap} {P : D → Prop} (one : ∀ v d e, P d → P e → V π φ v d → V π φ v e → d = e) :
    ∀ {vs : List Value} {ds es : List D}, (∀ d ∈ ds, P d) → (∀ d ∈ es, P d) → Vs π φ vs ds → Vs π φ vs es → ds = es
  | vs, [], [], _, _, _, _ => rfl
  | vs, [], e :: es, _, _, h1, h2 => by
    cases (show vs = [] from h1.inv)
    obtain ⟨_, _, q, _⟩ := h2.inv
    cases q
  | vs, d :: ds, [], _, _, h1, h2 => by
    cases (show vs = [] from h2.inv)
    obtain ⟨_, _, q, _⟩ := h1.inv
    cases q
  | vs, d :: ds, e :: es, h, h', h1, h2 => by
    obtain ⟨v, us, q, a, r⟩ := h1.inv
    subst q
    obtain ⟨v, us, q, b, q'⟩ := h2.inv
    cases q
    rw [one _ d e (h d (.head _)) (h' e (.head _)) a b, Vs.oneOf one (fun x hx => h x (.tail _ hx)) (fun x hx => h' x (.tail _ hx)) r q']
mutual
theorem V.one {π : List Addr} {φ : PMap} : ∀ (sh : Sh) (v : Value) (d e : D), Has sh d → Has sh e → V π φ v d → V π φ v e → d = e
  | .int, v, d, e, h, h', h1, h2 => by
    obtain ⟨i, rfl⟩ := h.intE
    obtain ⟨j, rfl⟩ := h'.intE
    obtain ⟨t, rfl⟩ := h1.intE
    cases h2; rfl
  | .str, v, d, e, h, h', h1, h2 => by
    obtain ⟨i, rfl⟩ := h.strE
    obtain ⟨j, rfl⟩ := h'.strE
    obtain ⟨x, t, rfl, rfl⟩ := h1.strE
    cases h2; rfl
  | .list s, v, d, e, h, h', h1, h2 => by
    obtain ⟨l, rfl, hl⟩ := h.listE
    obtain ⟨l', rfl, hl'⟩ := h'.listE
    obtain ⟨a, vs, n, rfl, ha, ra⟩ := h1.listE
    obtain ⟨b, us, m, e, hb, rb⟩ := h2.listE
    cases e
    rw [ha] at hb; cases hb
    rw [Vs.oneOf (V.one s) hl hl' ra rb]
  | .tup ss, v, d, e, h, h', h1, h2 => by
    obtain ⟨l, rfl, hl⟩ := h.tupE
    obtain ⟨l', rfl, hl'⟩ := h'.tupE
    obtain ⟨a, vs, n, rfl, ha, ra⟩ := h1.tupE
    obtain ⟨b, us, m, e, hb, rb⟩ := h2.tupE
    cases e
    rw [ha] at hb; cases hb
    rw [Vs.oneT ss _ _ _ hl hl' ra rb]
theorem Vs.oneT {π : List Addr} {φ : PMap} : ∀ (ss : List Sh) (vs : List Value) (ds es : List D), HasAll ss ds → HasAll ss es → Vs π φ vs ds → Vs π φ vs es → ds = es
  | [], _, [], [], _, _, _, _ => rfl
  | [], _, _ :: _, _, h, _, _, _ => h.elim
  | [], _, _, _ :: _, _, h, _, _ => h.elim
  | _ :: _, _, [], _, h, _, _, _ => h.elim
  | _ :: _, _, _, [], _, h, _, _ => h.elim
  | s :: ss, _, d :: ds, e :: es, h, h', .cons a r, .cons b q => by
    rw [V.one s _ d e h.1 h'.1 a b, Vs.oneT ss _ ds es h.2 h'.2 r q]
end
theorem all_range_eq {ds es : List D} (hl : ds.length = es.length) (e : Nat → Bool) (he : ∀ j d d', ds[j]? = some d → es[j]? = some d' → e j = decide (d = d')) :
    (List.range ds.length).all e = decide (ds = es) := by
  rw [Bool.eq_iff_iff, List.all_eq_true, decide_eq_true_eq]
  constructor
  · intro h
    refine List.ext_getElem? fun j => ?_
    by_cases hj : j < ds.length
    · have h1 := List.getElem?_eq_getElem hj
      have h2 := List.getElem?_eq_getElem (l := es) (i := j) (by exact ar96 hl hj)
      have := h j (List.mem_range.mpr hj)
      rw [he j _ _ h1 h2, decide_eq_true_eq] at this
      rw [h1, h2, this]
    · rw [List.getElem?_eq_none (by exact Nat.le_of_not_lt ‹_›), List.getElem?_eq_none (by exact ar97 hl hj)]
  · rintro rfl j hj
    have hj := List.mem_range.mp hj
    rw [he j _ _ (List.getElem?_eq_getElem hj) (List.getElem?_eq_getElem hj)]
    exact decide_eq_true rfl
theorem eqCast {A : Around} {s : Shared} {v u : Value} {b c : Bool} (h : EqAt A s v u b) (e : b = c) : EqAt A s v u c := e ▸ h
theorem vsAt {π : List Addr} {φ : PMap} {vs : Array Value} {ds : List D} (r : Vs π φ vs.toList ds) {j : Nat} (h : j < vs.size) : ∃ d, ds[j]? = some d ∧ V π φ vs[j] d := by
  have hj : j < ds.length := by rw [← r.length]; exact h
  obtain ⟨v, e, hv⟩ := r.get (List.getElem?_eq_getElem hj)
  refine ⟨_, List.getElem?_eq_getElem hj, ?_⟩
  have : vs.toList[j]? = some vs[j] := by rw [List.getElem?_eq_getElem (by simpa using h)]; rfl
  rw [this] at e; cases e; exact hv
theorem HasAll.at : ∀ {ss : List Sh} {ds : List D} {j : Nat} {d : D}, HasAll ss ds → ds[j]? = some d → ∃ sh, ss[j]? = some sh ∧ Has sh d
  | [], [], _, _, _, h => by exact nosome h
  | [], _ :: _, _, _, h, _ => h.elim
  | _ :: _, [], _, _, h, _ => h.elim
  | s :: ss, d :: ds, 0, _, h, e => by cases e; exact ⟨s, rfl, h.1⟩
  | s :: ss, d :: ds, j + 1, x, h, e => by simpa using h.2.at (j := j) (by simpa using e)
theorem HasAll.length : ∀ {ss : List Sh} {ds : List D}, HasAll ss ds → ss.length = ds.length
  | [], [], _ => rfl
  | [], _ :: _, h => h.elim
  | _ :: _, [], h => h.elim
  | _ :: _, _ :: _, h => congrArg (· + 1) h.2.length
mutual
theorem eqAt {π : List Addr} {φ : PMap} {s : Shared} (hφ : ∀ a o, φ a = some o → s.heap.get? a = some o) : ∀ (sh : Sh) (A : Around) (v u : Value) (d e : D), Has sh d → Has sh e → V π φ v d → V π φ u e → A.units + sh.dp < cLine → EqAt A s v u (decide (d = e))
  | .int, A, v, u, d, e, h, h', h1, h2, hu => by
    obtain ⟨i, rfl⟩ := h.intE
    obtain ⟨j, rfl⟩ := h'.intE
    obtain ⟨t, rfl⟩ := h1.intE
    obtain ⟨t', rfl⟩ := h2.intE
    refine eqCast (EqAt.int_int i t j t') ?_
    rw [Bool.eq_iff_iff, beq_iff_eq, decide_eq_true_eq, D.int.injEq]
  | .str, A, v, u, d, e, h, h', h1, h2, hu => by
    obtain ⟨i, rfl⟩ := h.strE
    obtain ⟨j, rfl⟩ := h'.strE
    obtain ⟨x, t, rfl, rfl⟩ := h1.strE
    obtain ⟨y, t', rfl, rfl⟩ := h2.strE
    refine eqCast (EqAt.str_str x t y t') ?_
    rw [← PyProof.Rows.toList_beq, Bool.eq_iff_iff, beq_iff_eq, decide_eq_true_eq, D.str.injEq]
  | .list sh, A, v, u, d, e, h, h', h1, h2, hu => by
    have hone := V.one (π := π) (φ := φ) (.list sh) v d e h h' h1
    obtain ⟨l, rfl, hl⟩ := h.listE
    obtain ⟨l', rfl, hl'⟩ := h'.listE
    obtain ⟨a, vs, n, rfl, ha, ra⟩ := h1.listE
    obtain ⟨b, us, m, rfl, hb, rb⟩ := h2.listE
    by_cases hab : a = b
    · subst hab
      exact eqCast (EqAt.same _) (decide_eq_true (hone h2)).symm
    · refine EqAt.of_refs hab ?_
      have hL : s.heap.IsList a vs := ⟨_, hφ _ _ ha, rfl, n, rfl⟩
      have hR : s.heap.IsList b us := ⟨_, hφ _ _ hb, rfl, m, rfl⟩
      have e1 : vs.size = l.length := by rw [← ra.length]; rfl
      have e2 : us.size = l'.length := by rw [← rb.length]; rfl
      have hu' : A.units + sh.dp + 1 < cLine := hu
      by_cases hs : vs.size = us.size
      · have q := RcAt.lists (A := A) (e := fun j => decide (l[j]? = l'[j]?)) hL hR hs (by exact ar98 hu') fun j h1 h2 => by
          obtain ⟨d, hd, vd⟩ := vsAt ra h1
          refine (vsAt rb h2).elim fun d' zz66 => zz66.elim fun hd' vd' => ?_
          refine eqCast (eqAt hφ sh A.in1 _ _ d d' (hl d (List.mem_of_getElem? hd)) (hl' d' (List.mem_of_getElem? hd')) vd vd' (by show A.units + 1 + _ < _; exact ar99 hu')) ?_
          rw [hd, hd']; simp only [Option.some.injEq]
        rw [e1, all_range_eq (ds := l) (es := l') (by exact ar100 e1 e2 hs) _ fun j d d' hd hd' => by rw [hd, hd']; simp only [Option.some.injEq]] at q
        simp only [D.list.injEq]
        exact q
      · have q := RcAt.lists_lengths (A := A) hL hR (by simpa using hs) (by exact ar98 hu')
        have : decide (D.list l = D.list l') = false := decide_eq_false fun q => by cases q; exact ar101 e1 hs e2
        rw [this]; exact q
  | .tup ss, A, v, u, d, e, h, h', h1, h2, hu => by
    have hone := V.one (π := π) (φ := φ) (.tup ss) v d e h h' h1
    obtain ⟨l, rfl, hl⟩ := h.tupE
    obtain ⟨l', rfl, hl'⟩ := h'.tupE
    obtain ⟨a, vs, n, rfl, ha, ra⟩ := h1.tupE
    obtain ⟨b, us, m, rfl, hb, rb⟩ := h2.tupE
    by_cases hab : a = b
    · subst hab
      exact eqCast (EqAt.same _) (decide_eq_true (hone h2)).symm
    · refine EqAt.of_refs hab ?_
      have hL : s.heap.IsTuple a vs := ⟨_, hφ _ _ ha, rfl, n, rfl⟩
      have hR : s.heap.IsTuple b us := ⟨_, hφ _ _ hb, rfl, m, rfl⟩
      have e1 : vs.size = l.length := by rw [← ra.length]; rfl
      have e2 : us.size = l'.length := by rw [← rb.length]; rfl
      have e3 := hl.length
      have e4 := hl'.length
      have hu' : A.units + Sh.dps ss + 1 < cLine := hu
      have q := RcAt.tuples (A := A) (e := fun j => decide (l[j]? = l'[j]?)) hL hR (by exact ar98 hu') fun j h1 h2 => by
          refine (vsAt ra h1).elim fun d zz81 => zz81.elim fun hd vd => ?_
          obtain ⟨d', hd', vd'⟩ := vsAt rb h2
          refine (hl.at hd).elim fun sh zz83 => zz83.elim fun hs1 hd1 => ?_
          obtain ⟨sh', hs2, hd2⟩ := hl'.at hd'
          rw [hs1] at hs2; cases hs2
          refine eqCast (eqAts hφ ss A.in1 j sh hs1 _ _ d d' hd1 hd2 vd vd' (by show A.units + 1 + _ < _; exact ar99 hu')) ?_
          rw [hd, hd']; simp only [Option.some.injEq]
      have hm : min vs.size us.size = l.length := by exact ar102 e1 e2 e3 e4
      rw [hm, all_range_eq (ds := l) (es := l') (by exact ar103 e3 e4) _ fun j d d' hd hd' => by rw [hd, hd']; simp only [Option.some.injEq]] at q
      have : (vs.size == us.size) = true := by rw [beq_iff_eq]; exact ar104 e1 e2 e3 e4
      rw [this, Bool.and_true] at q
      simp only [D.tup.injEq]
      exact q
theorem eqAts {π : List Addr} {φ : PMap} {s : Shared} (hφ : ∀ a o, φ a = some o → s.heap.get? a = some o) : ∀ (ss : List Sh) (A : Around) (j : Nat) (sh : Sh), ss[j]? = some sh → ∀ (v u : Value) (d e : D), Has sh d → Has sh e → V π φ v d → V π φ u e → A.units + Sh.dps ss < cLine → EqAt A s v u (decide (d = e))
  | [], _, _, _, h, _, _, _, _, _, _, _, _, _ => by exact nosome h
  | s :: ss, A, 0, sh, h, v, u, d, e, h1, h2, v1, v2, hu => by
    cases h
    exact eqAt hφ s A v u d e h1 h2 v1 v2 (by have : Sh.dps (s :: ss) = max s.dp (Sh.dps ss) := rfl; exact ar105 hu this)
  | s :: ss, A, j + 1, sh, h, v, u, d, e, h1, h2, v1, v2, hu => by
    exact eqAts hφ ss A j sh (by simpa using h) v u d e h1 h2 v1 v2 (by have : Sh.dps (s :: ss) = max s.dp (Sh.dps ss) := rfl; exact ar106 hu this)
end
theorem rcTup {π : List Addr} {φ : PMap} {s : Shared} (hφ : ∀ a o, φ a = some o → s.heap.get? a = some o) {ss : List Sh} {A : Around} {v u : Value} {l l' : List D} (hl : HasAll ss l) (hl' : HasAll ss l') (h1 : V π φ v (.tup l)) (h2 : V π φ u (.tup l')) (hu' : A.units + Sh.dps ss + 1 < cLine) : RcAt A s v u (decide (l = l')) := by
  refine h1.tupE.elim fun a zz85 => zz85.elim fun vs zz86 => zz86.elim fun n zz87 => zz87.elim fun zz88 zz89 => zz89.elim fun ha ra => ?_
  subst zz88
  obtain ⟨b, us, m, rfl, hb, rb⟩ := h2.tupE
  have hL : s.heap.IsTuple a vs := ⟨_, hφ _ _ ha, rfl, n, rfl⟩
  have hR : s.heap.IsTuple b us := ⟨_, hφ _ _ hb, rfl, m, rfl⟩
  have e1 : vs.size = l.length := by rw [← ra.length]; rfl
  have e2 : us.size = l'.length := by rw [← rb.length]; rfl
  have e3 := hl.length
  have e4 := hl'.length
  have q := RcAt.tuples (A := A) (e := fun j => decide (l[j]? = l'[j]?)) hL hR (by exact ar98 hu') fun j h1 h2 => by
      refine (vsAt ra h1).elim fun d zz95 => zz95.elim fun hd vd => ?_
      obtain ⟨d', hd', vd'⟩ := vsAt rb h2
      refine (hl.at hd).elim fun sh zz97 => zz97.elim fun hs1 hd1 => ?_
      obtain ⟨sh', hs2, hd2⟩ := hl'.at hd'
      rw [hs1] at hs2; cases hs2
      refine eqCast (eqAts hφ ss A.in1 j sh hs1 _ _ d d' hd1 hd2 vd vd' (by show A.units + 1 + _ < _; exact ar99 hu')) ?_
      rw [hd, hd']; simp only [Option.some.injEq]
  have hm : min vs.size us.size = l.length := by exact ar102 e1 e2 e3 e4
  rw [hm, all_range_eq (ds := l) (es := l') (by exact ar103 e3 e4) _ fun j d d' hd hd' => by rw [hd, hd']; simp only [Option.some.injEq]] at q
  have : (vs.size == us.size) = true := by rw [beq_iff_eq]; exact ar104 e1 e2 e3 e4
  rw [this, Bool.and_true] at q
  exact q
end
section
open PySem.SeqAt PySem.F PySem.MeetsSeq
open AutoSeq1 (wpAny_loadPart')
open MeetsSeq MeetsSeq2 MeetsSeq3 SeqRoads2
noncomputable def CmpAt (op : CmpOp) (A : Around) (s : Shared) (y x : Value) (b : Bool) : Prop :=
  ∀ (prog : Program) (w : World) (E : Value → Shared → Prop) (Q : Value → Shared → Prop), Q (.bool b) s → wpAny (model prog w) A (richCompare op y x) Q E s
noncomputable def lexN (e r : Nat → Bool) (fin : Bool) : Nat → Nat → Bool
  | 0, _ => fin
  | k + 1, i => if e i = true then lexN e r fin k (i + 1) else r i
theorem lt_loopAt (l b : Addr) (items items2 : Array Value) (n n2 : Nat) (dd dd2 : Option Addr) (sl sl2 : Array (Option Value)) (e r : Nat → Bool) (k : Nat) :
    ∀ i : Nat, min items.size items2.size - i = k → i ≤ min items.size items2.size → Meets (Builtin.«list.__eq__.loop» ⟨[.ref l, .ref b, rawInt i, rawInt 0], []⟩)
      (fun A R s => s.heap.get? l = some { cls := .type "list", dict := dd, data := .seq items n, slots := sl } ∧ s.heap.get? b = some { cls := .type "list", dict := dd2, data := .seq items2 n2, slots := sl2 } ∧
        (∀ j (h1 : j < items.size) (h2 : j < items2.size), EqAt A.in1 s items[j] items2[j] (e j)) ∧
        (∀ j (h1 : j < items.size) (h2 : j < items2.size), e j = false → CmpAt .Lt A.in1 s items[j] items2[j] (r j)) ∧
        R (.ok (.ret (.bool (lexN e r (decide (items.size < items2.size)) k i)))) s) := by
  induction k with
  | zero =>
    intro i hk hi prog w A R s h
    obtain ⟨hp, g, d, tk, os⟩ := s; obtain ⟨hl, hb, he, hr, h⟩ := h
    wp_walk using wpAny_loadPart' hl, wpAny_loadPart' hb
    by_cases h1 : items.size ≤ i
    · have hi1 : items[((i : Nat) : Int).toNat]? = none := by simp; exact h1
      rw [hi1]
      wp_walk using wpAny_loadPart' hl, wpAny_loadPart' hb
      exact h
    · have hi2 : items2[((i : Nat) : Int).toNat]? = none := by simp; exact ar31 hk h1
      have hi1 : items[((i : Nat) : Int).toNat]? = some items[i] := by simp
      rw [hi2, hi1]
      wp_walk using wpAny_loadPart' hl, wpAny_loadPart' hb
      exact h
  | succ k ih =>
    intro i hk hi prog w A R s h
    obtain ⟨hp, g, d, tk, os⟩ := s; obtain ⟨hl, hb, he, hr, h⟩ := h
    wp_walk using wpAny_loadPart' hl, wpAny_loadPart' hb
    have hlt : i < items.size := by exact ar33 hk
    have hlt2 : i < items2.size := by exact ar34 hk
    have hi1 : items[((i : Nat) : Int).toNat]? = some items[i] := by simp [hlt]
    have hi2 : items2[((i : Nat) : Int).toNat]? = some items2[i] := by simp [hlt2]
    have hc : ((i : Int) + 1) = ((i + 1 : Nat) : Int) := by push_cast; rfl
    rw [hi1, hi2]
    refine wpAny_bind (he i hlt hlt2 prog w _ _ ?_)
    cases hb' : e i with
    | true =>
      rw [lexN, if_pos hb'] at h
      wp_walk
      rw [hc]
      exact ⟨plainId_quiet plain_eq_loop _, codeAny_builtin entry_eq_loop (by
        rw [Around.under_plainId plain_eq_loop _]
        exact ih (i + 1) (by exact ar35 hk) (by exact ar36 hlt hlt2) prog w A R _ ⟨hl, hb, he, hr, h⟩)⟩
    | false =>
      rw [lexN, if_neg (by rw [hb']; exact Bool.false_ne_true)] at h
      wp_walk using wpAny_loadPart' hl, wpAny_loadPart' hb
      rw [hi1, hi2]
      refine wpAny_bind (hr i hlt hlt2 hb' prog w _ _ ?_)
      wp_walk
      exact h
theorem lt_listAt (l b : Addr) (items items2 : Array Value) (n n2 : Nat) (dd dd2 : Option Addr) (sl sl2 : Array (Option Value)) (e r : Nat → Bool) :
    Meets (Builtin.«list.__lt__» ⟨[.ref l, .ref b], []⟩)
      (fun A R s => s.heap.get? l = some { cls := .type "list", dict := dd, data := .seq items n, slots := sl } ∧ s.heap.get? b = some { cls := .type "list", dict := dd2, data := .seq items2 n2, slots := sl2 } ∧
        (∀ j (h1 : j < items.size) (h2 : j < items2.size), EqAt A.in1 s items[j] items2[j] (e j)) ∧
        (∀ j (h1 : j < items.size) (h2 : j < items2.size), e j = false → CmpAt .Lt A.in1 s items[j] items2[j] (r j)) ∧
        R (.ok (.ret (.bool (lexN e r (decide (items.size < items2.size)) (min items.size items2.size) 0)))) s) := by
  intro prog w A R s h
  obtain ⟨hp, g, d, tk, os⟩ := s; obtain ⟨hl, hb, he, hr, h⟩ := h
  have f3 := AutoSeq1.sub_list_list
  wp_walk using wpAny_loadPart' hl, wpAny_loadPart' hb
  exact ⟨plainId_quiet plain_eq_loop _, codeAny_builtin entry_eq_loop (by
    rw [Around.under_plainId plain_eq_loop _]
    exact lt_loopAt l b items items2 n n2 dd dd2 sl sl2 e r _ 0 rfl (Nat.zero_le _) prog w A R _ ⟨hl, hb, he, hr, by simpa using h⟩)⟩
theorem CmpAt.lts {A : Around} {s : Shared} {l b : Addr} {items items2 : Array Value} {e r : Nat → Bool} (hl : s.heap.IsList l items) (hb : s.heap.IsList b items2) (hu : A.units < cLine)
    (he : ∀ j (h1 : j < items.size) (h2 : j < items2.size), EqAt A.in1 s items[j] items2[j] (e j))
    (hr : ∀ j (h1 : j < items.size) (h2 : j < items2.size), e j = false → CmpAt .Lt A.in1 s items[j] items2[j] (r j)) : CmpAt .Lt A s (.ref l) (.ref b) (lexN e r (decide (items.size < items2.size)) (min items.size items2.size) 0) := fun prog w E Q h => by
  obtain ⟨⟨cls, dd, data, sl⟩, ho, hc, n, hd⟩ := id hl
  obtain ⟨⟨cls2, dd2, data2, sl2⟩, ho2, hc2, n2, hd2⟩ := id hb
  simp only at hc hd hc2 hd2
  subst hc hd hc2 hd2
  exact richCompare_meets_room (op := .Lt) ⟨_, ho, rfl⟩ ⟨_, ho2, rfl⟩ F.slot_list_lt F.entry_list_lt (F.args_list_lt_2 _ _) (lt_listAt l b items items2 n n2 dd dd2 sl sl2 e r)
    ⟨ho, ho2, he, hr, show Value.bool _ ≠ Value.notImplemented ∧ Q (.bool _) s from ⟨(fun x => nomatch x), h⟩⟩ hu
theorem gt_loopAt (l b : Addr) (items items2 : Array Value) (n n2 : Nat) (dd dd2 : Option Addr) (sl sl2 : Array (Option Value)) (e r : Nat → Bool) (k : Nat) :
    ∀ i : Nat, min items.size items2.size - i = k → i ≤ min items.size items2.size → Meets (Builtin.«list.__eq__.loop» ⟨[.ref l, .ref b, rawInt i, rawInt 4], []⟩)
      (fun A R s => s.heap.get? l = some { cls := .type "list", dict := dd, data := .seq items n, slots := sl } ∧ s.heap.get? b = some { cls := .type "list", dict := dd2, data := .seq items2 n2, slots := sl2 } ∧
        (∀ j (h1 : j < items.size) (h2 : j < items2.size), EqAt A.in1 s items[j] items2[j] (e j)) ∧
        (∀ j (h1 : j < items.size) (h2 : j < items2.size), e j = false → CmpAt .Gt A.in1 s items[j] items2[j] (r j)) ∧
        R (.ok (.ret (.bool (lexN e r (decide (items.size > items2.size)) k i)))) s) := by
  induction k with
  | zero =>
    intro i hk hi prog w A R s h
    obtain ⟨hp, g, d, tk, os⟩ := s; obtain ⟨hl, hb, he, hr, h⟩ := h
    wp_walk using wpAny_loadPart' hl, wpAny_loadPart' hb
    by_cases h1 : items.size ≤ i
    · have hi1 : items[((i : Nat) : Int).toNat]? = none := by simp; exact h1
      rw [hi1]
      wp_walk using wpAny_loadPart' hl, wpAny_loadPart' hb
      exact h
    · have hi2 : items2[((i : Nat) : Int).toNat]? = none := by simp; exact ar31 hk h1
      have hi1 : items[((i : Nat) : Int).toNat]? = some items[i] := by simp
      rw [hi2, hi1]
      wp_walk using wpAny_loadPart' hl, wpAny_loadPart' hb
      exact h
  | succ k ih =>
    intro i hk hi prog w A R s h
    obtain ⟨hp, g, d, tk, os⟩ := s; obtain ⟨hl, hb, he, hr, h⟩ := h
    wp_walk using wpAny_loadPart' hl, wpAny_loadPart' hb
    have hlt : i < items.size := by exact ar33 hk
    have hlt2 : i < items2.size := by exact ar34 hk
    have hi1 : items[((i : Nat) : Int).toNat]? = some items[i] := by simp [hlt]
    have hi2 : items2[((i : Nat) : Int).toNat]? = some items2[i] := by simp [hlt2]
    have hc : ((i : Int) + 1) = ((i + 1 : Nat) : Int) := by push_cast; rfl
    rw [hi1, hi2]
    refine wpAny_bind (he i hlt hlt2 prog w _ _ ?_)
    cases hb' : e i with
    | true =>
      rw [lexN, if_pos hb'] at h
      wp_walk
      rw [hc]
      exact ⟨plainId_quiet plain_eq_loop _, codeAny_builtin entry_eq_loop (by
        rw [Around.under_plainId plain_eq_loop _]
        exact ih (i + 1) (by exact ar35 hk) (by exact ar36 hlt hlt2) prog w A R _ ⟨hl, hb, he, hr, h⟩)⟩
    | false =>
      rw [lexN, if_neg (by rw [hb']; exact Bool.false_ne_true)] at h
      wp_walk using wpAny_loadPart' hl, wpAny_loadPart' hb
      rw [hi1, hi2]
      refine wpAny_bind (hr i hlt hlt2 hb' prog w _ _ ?_)
      wp_walk
      exact h
theorem gt_listAt (l b : Addr) (items items2 : Array Value) (n n2 : Nat) (dd dd2 : Option Addr) (sl sl2 : Array (Option Value)) (e r : Nat → Bool) :
    Meets (Builtin.«list.__gt__» ⟨[.ref l, .ref b], []⟩)
      (fun A R s => s.heap.get? l = some { cls := .type "list", dict := dd, data := .seq items n, slots := sl } ∧ s.heap.get? b = some { cls := .type "list", dict := dd2, data := .seq items2 n2, slots := sl2 } ∧
        (∀ j (h1 : j < items.size) (h2 : j < items2.size), EqAt A.in1 s items[j] items2[j] (e j)) ∧
        (∀ j (h1 : j < items.size) (h2 : j < items2.size), e j = false → CmpAt .Gt A.in1 s items[j] items2[j] (r j)) ∧
        R (.ok (.ret (.bool (lexN e r (decide (items.size > items2.size)) (min items.size items2.size) 0)))) s) := by
  intro prog w A R s h
  obtain ⟨hp, g, d, tk, os⟩ := s; obtain ⟨hl, hb, he, hr, h⟩ := h
  have f3 := AutoSeq1.sub_list_list
  wp_walk using wpAny_loadPart' hl, wpAny_loadPart' hb
  exact ⟨plainId_quiet plain_eq_loop _, codeAny_builtin entry_eq_loop (by
    rw [Around.under_plainId plain_eq_loop _]
    exact gt_loopAt l b items items2 n n2 dd dd2 sl sl2 e r _ 0 rfl (Nat.zero_le _) prog w A R _ ⟨hl, hb, he, hr, by simpa using h⟩)⟩
theorem CmpAt.gts {A : Around} {s : Shared} {l b : Addr} {items items2 : Array Value} {e r : Nat → Bool} (hl : s.heap.IsList l items) (hb : s.heap.IsList b items2) (hu : A.units < cLine)
    (he : ∀ j (h1 : j < items.size) (h2 : j < items2.size), EqAt A.in1 s items[j] items2[j] (e j))
    (hr : ∀ j (h1 : j < items.size) (h2 : j < items2.size), e j = false → CmpAt .Gt A.in1 s items[j] items2[j] (r j)) : CmpAt .Gt A s (.ref l) (.ref b) (lexN e r (decide (items.size > items2.size)) (min items.size items2.size) 0) := fun prog w E Q h => by
  obtain ⟨⟨cls, dd, data, sl⟩, ho, hc, n, hd⟩ := id hl
  obtain ⟨⟨cls2, dd2, data2, sl2⟩, ho2, hc2, n2, hd2⟩ := id hb
  simp only at hc hd hc2 hd2
  subst hc hd hc2 hd2
  exact richCompare_meets_room (op := .Gt) ⟨_, ho, rfl⟩ ⟨_, ho2, rfl⟩ F.slot_list_gt F.entry_list_gt (F.args_list_gt_2 _ _) (gt_listAt l b items items2 n n2 dd dd2 sl sl2 e r)
    ⟨ho, ho2, he, hr, show Value.bool _ ≠ Value.notImplemented ∧ Q (.bool _) s from ⟨(fun x => nomatch x), h⟩⟩ hu
end
section
open PySem.SeqAt
variable {G : GG} {F : Fm} {k : Nat} {ρ : Rho} {μ : Mu} {W : Wd} {s : Shared} {A : Around} {π : List Addr} {φ : PMap}
theorem ltN_lt : ∀ a b : List Nat, decide (a < b) = ltN a b
  | [], [] => rfl
  | [], _ :: _ => rfl
  | _ :: _, [] => rfl
  | a :: r, b :: q => by
    rw [ltN, ← ltN_lt r q, Bool.eq_iff_iff, decide_eq_true_eq, List.cons_lt_cons_iff]
    by_cases h : a = b
    · subst h; simp
    · simp [h]
theorem CmpAt.cast {op : CmpOp} {A : Around} {s : Shared} {v u : Value} {b c : Bool} (h : CmpAt op A s v u b) (e : b = c) : CmpAt op A s v u c := e ▸ h
theorem CmpAt.lt_int (a : Int) (t : Tok) (b : Int) (u : Tok) : CmpAt .Lt A s (.int a t) (.int b u) (decide (a < b)) := fun prog w E Q h => PyProof.Rows.lt_int h
theorem CmpAt.lt_str (a : Str) (t : Tok) (b : Str) (u : Tok) : CmpAt .Lt A s (.str a t) (.str b u) (ltN a.cps.toList b.cps.toList) := fun prog w E Q h => PyProof.Rows.lt_str (by rw [ltN_lt]; exact h)
theorem CmpAt.gt_str (a : Str) (t : Tok) (b : Str) (u : Tok) : CmpAt .Gt A s (.str a t) (.str b u) (ltN b.cps.toList a.cps.toList) := fun prog w E Q h => P.gt_str (by rw [ltN_lt]; exact h)
theorem lexN_drop (a b : List (List Nat)) (e : Nat → Bool) (he : ∀ j, e j = decide (a[j]? = b[j]?)) (r : Nat → Bool) (hr : ∀ j, r j = ltN (a.getD j []) (b.getD j [])) :
    ∀ k i, min a.length b.length - i = k → i ≤ min a.length b.length → lexN e r (decide (a.length < b.length)) k i = ltL (a.drop i) (b.drop i)
  | 0, i, hk, hi => by
    rw [lexN]
    by_cases h : a.length ≤ i
    · rw [List.drop_eq_nil_of_le h]
      by_cases h2 : b.length ≤ i
      · rw [List.drop_eq_nil_of_le h2]; rw [ltL]; exact decide_eq_false (by exact ar29 hi h2)
      · rw [List.drop_eq_getElem_cons (l := b) (by exact Nat.lt_of_not_le ‹_›)]; rw [ltL]; exact decide_eq_true (by exact ar30 h h2)
    · have hb : b.length ≤ i := by exact ar31 hk h
      rw [List.drop_eq_getElem_cons (l := a) (by exact Nat.lt_of_not_le ‹_›), List.drop_eq_nil_of_le hb, ltL]; exact decide_eq_false (by exact ar32 h hb)
  | k + 1, i, hk, hi => by
    have h1 : i < a.length := by exact ar33 hk
    have h2 : i < b.length := by exact ar34 hk
    rw [lexN, he, lexN_drop a b e he r hr k (i + 1) (by exact ar35 hk) (by exact ar36 h1 h2), List.drop_eq_getElem_cons h1, List.drop_eq_getElem_cons h2, ltL, hr, List.getElem?_eq_getElem h1, List.getElem?_eq_getElem h2]
    simp only [Option.some.injEq, decide_eq_true_eq]
    rw [List.getD_eq_getElem?_getD, List.getD_eq_getElem?_getD, List.getElem?_eq_getElem h1, List.getElem?_eq_getElem h2]; rfl
theorem strsAt {vs : Array Value} {ns : List (List Nat)} (r : Vs π φ vs.toList (ns.map .str)) {j : Nat} (h : j < vs.size) : ∃ x t, vs[j] = .str x t ∧ ns[j]? = some x.cps.toList := by
  obtain ⟨d, hd, hv⟩ := vsAt r h
  rw [List.getElem?_map] at hd
  obtain ⟨x, hx, rfl⟩ := Option.map_eq_some_iff.mp hd
  obtain ⟨y, t, e, rfl⟩ := hv.strE
  exact ⟨y, t, e, hx⟩
theorem vsize {vs : Array Value} {ds : List D} (r : Vs π φ vs.toList ds) : vs.size = ds.length := by rw [← r.length]; rfl
theorem CmpAt.strs_lt (hφ : ∀ a o, φ a = some o → s.heap.get? a = some o) {v u : Value} {a b : List (List Nat)} (h1 : V π φ v (strsD a)) (h2 : V π φ u (strsD b)) (hu : A.units < cLine) : CmpAt .Lt A s v u (ltL a b) := by
  obtain ⟨l, vs, n, rfl, hl, ra⟩ := h1.listE
  obtain ⟨m, us, n', rfl, hm, rb⟩ := h2.listE
  have e1 := vsize ra
  have e2 := vsize rb
  rw [List.length_map] at e1 e2
  have q := CmpAt.lts (A := A) (e := fun j => decide (a[j]? = b[j]?)) (r := fun j => ltN (a.getD j []) (b.getD j [])) ⟨_, hφ _ _ hl, rfl, n, rfl⟩ ⟨_, hφ _ _ hm, rfl, n', rfl⟩ hu (fun j h1 h2 => by
      obtain ⟨x, t, ex, hx⟩ := strsAt ra h1
      obtain ⟨y, t', ey, hy⟩ := strsAt rb h2
      rw [ex, ey, hx, hy]
      refine eqCast (EqAt.str_str x t y t') ?_
      rw [← PyProof.Rows.toList_beq, Bool.eq_iff_iff, beq_iff_eq, decide_eq_true_eq, Option.some.injEq]) (fun j h1 h2 zz => by
      obtain ⟨x, t, ex, hx⟩ := strsAt ra h1
      obtain ⟨y, t', ey, hy⟩ := strsAt rb h2
      rw [ex, ey]
      refine (CmpAt.lt_str x t y t').cast ?_
      rw [List.getD_eq_getElem?_getD, List.getD_eq_getElem?_getD, hx, hy]; rfl)
  rw [e1, e2, lexN_drop a b _ (fun zz => rfl) _ (fun zz => rfl) _ 0 (by simp +arith) (by exact Nat.zero_le _)] at q
  exact q
theorem lexN_dropG (a b : List (List Nat)) (e : Nat → Bool) (he : ∀ j, e j = decide (a[j]? = b[j]?)) (r : Nat → Bool) (hr : ∀ j, r j = ltN (b.getD j []) (a.getD j [])) (k : Nat) (hk : min a.length b.length = k) :
    lexN e r (decide (a.length > b.length)) k 0 = ltL b a := by
  have := lexN_drop b a e (fun j => by rw [he]; simp only [eq_comm]) r hr k 0 (by exact ar37 hk) (by exact Nat.zero_le _)
  simpa using this
theorem CmpAt.strs_gt (hφ : ∀ a o, φ a = some o → s.heap.get? a = some o) {v u : Value} {a b : List (List Nat)} (h1 : V π φ v (strsD a)) (h2 : V π φ u (strsD b)) (hu : A.units < cLine) : CmpAt .Gt A s v u (ltL b a) := by
  obtain ⟨l, vs, n, rfl, hl, ra⟩ := h1.listE
  obtain ⟨m, us, n', rfl, hm, rb⟩ := h2.listE
  have e1 := vsize ra
  have e2 := vsize rb
  rw [List.length_map] at e1 e2
  have q := CmpAt.gts (A := A) (e := fun j => decide (a[j]? = b[j]?)) (r := fun j => ltN (b.getD j []) (a.getD j [])) ⟨_, hφ _ _ hl, rfl, n, rfl⟩ ⟨_, hφ _ _ hm, rfl, n', rfl⟩ hu (fun j h1 h2 => by
      obtain ⟨x, t, ex, hx⟩ := strsAt ra h1
      obtain ⟨y, t', ey, hy⟩ := strsAt rb h2
      rw [ex, ey, hx, hy]
      refine eqCast (EqAt.str_str x t y t') ?_
      rw [← PyProof.Rows.toList_beq, Bool.eq_iff_iff, beq_iff_eq, decide_eq_true_eq, Option.some.injEq]) (fun j h1 h2 zz => by
      obtain ⟨x, t, ex, hx⟩ := strsAt ra h1
      obtain ⟨y, t', ey, hy⟩ := strsAt rb h2
      rw [ex, ey]
      refine (CmpAt.gt_str x t y t').cast ?_
      rw [List.getD_eq_getElem?_getD, List.getD_eq_getElem?_getD, hx, hy]; rfl)
  rw [e1, e2, lexN_dropG a b _ (fun zz => rfl) _ (fun zz => rfl) _ rfl] at q
  exact q
theorem has_int (i : Int) : Has .int (.int i) := trivial
theorem has_str (i : List Nat) : Has .str (.str i) := trivial
theorem has_strs (l : List (List Nat)) : Has (.list .str) (strsD l) := fun d hd => by
  obtain ⟨x, _, rfl⟩ := List.mem_map.mp hd; trivial
theorem strsD_inj {n n' : List (List Nat)} : strsD n = strsD n' ↔ n = n' := by
  rw [D.list.injEq]
  constructor
  · intro h; exact (List.map_inj_right fun a b e => by cases e; rfl).mp h
  · rintro rfl; rfl
theorem CmpAt.heads (hφ : ∀ a o, φ a = some o → s.heap.get? a = some o) {v u : Value} {n n' : List (List Nat)} {i m i' m' : Int} {p p' : List Nat} (h1 : V π φ v (headD n i m p)) (h2 : V π φ u (headD n' i' m' p')) (hi : n = n' → i ≠ i') (hu : A.units + 5 < cLine) :
    CmpAt .Lt A s v u (if n = n' then decide (i < i') else ltL n n') := by
  obtain ⟨l, vs, z, rfl, hl, ra⟩ := h1.listE
  obtain ⟨b, us, z', rfl, hm, rb⟩ := h2.listE
  have e1 := vsize ra
  have e2 := vsize rb
  simp only [List.length_cons, List.length_nil] at e1 e2
  have q := CmpAt.lts (A := A) (e := fun j => if j = 0 then decide (n = n') else if j = 1 then decide (i = i') else if j = 2 then decide (m = m') else decide (p = p'))
    (r := fun j => if j = 0 then ltL n n' else if j = 1 then decide (i < i') else if j = 2 then decide (m < m') else ltN p p') ⟨_, hφ _ _ hl, rfl, z, rfl⟩ ⟨_, hφ _ _ hm, rfl, z', rfl⟩ (by exact ar38 hu) (fun j h1 h2 => ?_) (fun j h1 h2 zz => ?_)
  · rw [e1, e2] at q
    refine q.cast ?_
    show lexN _ _ _ 4 0 = _
    simp only [lexN]
    by_cases hn : n = n'
    · have := hi hn
      simp [hn, this]
    · simp [hn]
  · refine (vsAt ra h1).elim fun d zz53 => zz53.elim fun hd vd => ?_
    obtain ⟨d', hd', vd'⟩ := vsAt rb h2
    rcases j with _ | _ | _ | _ | j
    · cases hd; cases hd'
      refine eqCast (eqAt hφ (.list .str) A.in1 _ _ _ _ (has_strs _) (has_strs _) vd vd' ?_) ?_
      · show A.units + 1 + 1 < _; exact ar39 hu
      · simp only [strsD_inj]; rfl
    · cases hd; cases hd'
      refine eqCast (eqAt hφ .int A.in1 _ _ _ _ (has_int _) (has_int _) vd vd' ?_) ?_
      · show A.units + 1 + 0 < _; exact ar40 hu
      · simp
    · cases hd; cases hd'
      refine eqCast (eqAt hφ .int A.in1 _ _ _ _ (has_int _) (has_int _) vd vd' ?_) ?_
      · show A.units + 1 + 0 < _; exact ar40 hu
      · simp
    · cases hd; cases hd'
      refine eqCast (eqAt hφ .str A.in1 _ _ _ _ (has_str _) (has_str _) vd vd' ?_) ?_
      · show A.units + 1 + 0 < _; exact ar40 hu
      · simp
    · exact absurd h1 (by exact ar41 e2 h2)
  · obtain ⟨d, hd, vd⟩ := vsAt ra h1
    obtain ⟨d', hd', vd'⟩ := vsAt rb h2
    rcases j with _ | _ | _ | _ | j
    · cases hd; cases hd'
      exact CmpAt.strs_lt hφ vd vd' (by show A.units + 1 < _; exact ar42 hu)
    · cases hd; cases hd'
      obtain ⟨t, e⟩ := vd.intE
      refine vd'.intE.elim fun t' e' => ?_
      rw [e, e']; exact CmpAt.lt_int _ _ _ _
    · cases hd; cases hd'
      obtain ⟨t, e⟩ := vd.intE
      refine vd'.intE.elim fun t' e' => ?_
      rw [e, e']; exact CmpAt.lt_int _ _ _ _
    · cases hd; cases hd'
      obtain ⟨x, t, e, ex⟩ := vd.strE
      refine vd'.strE.elim fun y zz59 => zz59.elim fun t' zz60 => zz60.elim fun e' ey => ?_
      rw [e, e', ← ex, ← ey]; exact CmpAt.lt_str _ _ _ _
    · exact absurd h1 (by exact ar41 e2 h2)
end
section
set_option tactic.hygienic true
open PySem.SeqAt
open Classical
variable {G : GG} {F : Fm} {k : Nat} {ρ : Rho} {μ : Mu} {W : Wd} {s : Shared} {A : Around}
theorem AOk.u {F : Fm} {W : Wd} {k : Nat} {A : Around} (a : AOk F W k A) : A.units ≤ 9000 := Nat.le_trans (Nat.le_add_right _ _) a.units
theorem cl : cLine = 9900 := rfl
theorem Rel.mutE (r : Rel G F W ρ μ s) {v : Value} {i : Nat} {l : List D} (hv : V W.π W.φ v (.mut i)) (hl : μ[i]? = some (some l)) : ∃ a vs n, v = .ref a ∧ W.π[i]? = some a ∧ s.heap.get? a = some (listO vs n) ∧ vs.size ≤ big ∧ Vs W.π W.φ vs.toList l := by
  cases hv
  rename_i h
  obtain ⟨vs, n, h1, h2, h3⟩ := r.wr.muts i _ l h hl; exact ⟨_, vs, n, rfl, h, h1, h2, h3⟩
theorem getMuE {i : Nat} {K : List D → Prop} (h : getMu μ i K) : ∃ l, μ[i]? = some (some l) ∧ K l := by
  unfold getMu at h
  cases e : μ[i]? with
  | none => rw [e] at h; exact h.elim
  | some o => cases o with
    | none => rw [e] at h; exact h.elim
    | some l => rw [e] at h; exact ⟨l, rfl, h⟩
theorem V.bytesE {π : List Addr} {φ : PMap} {v : Value} {l : List UInt8} (h : V π φ v (.bytes l)) : ∃ x t, v = .bytes x t ∧ x.toList = l ∧ x.size ≤ big := h.inv
theorem isEmpty_dec {α : Type} (vs : Array Value) (l : List α) (h : vs.size = l.length) : (!vs.isEmpty) = decide (l ≠ []) := by
  rw [Bool.eq_iff_iff, Bool.not_eq_true', decide_eq_true_eq, ← Bool.not_eq_true, Array.isEmpty_iff_size_eq_zero, h]
  cases l <;> simp
theorem truth_sound {d : D} {Q : Bool → Rho → Mu → Prop} {X} (h : vcTruth d μ fun b => Q b ρ μ) : Op1 G F k RE truthy d ρ μ Q X := fun W A s v a r hv => by
  cases d with
  | none => cases hv; exact wpAny_pure (.b r h)
  | bool b => cases hv; exact wpAny_truthy_bool (.b r h)
  | str l =>
    obtain ⟨x, t, rfl, hx⟩ := hv.strE
    have hz := hv.strZ
    refine P.truthy_str (by rw [len_cps, hx]; unfold big at hz; omega) (.b (r.toks _) ?_)
    have : ((x.length : Int) != 0) = decide (x.cps.toList ≠ []) := by
      rw [len_cps]; cases x.cps.toList <;> simp; exact ar43
    rw [this, hx]; exact h
  | bytes l =>
    obtain ⟨x, t, rfl, rfl, hz⟩ := hv.bytesE
    refine PySem.W.truthy_bytes (by unfold big at hz; exact ar44 hz) (.b (r.toks _) ?_)
    have : ((x.size : Int) != 0) = decide (x.toList ≠ []) := by
      rw [← Array.length_toList]; cases x.toList <;> simp; exact ar43
    rw [this]; exact h
  | list l =>
    have hz := hv.listZ
    obtain ⟨l, vs, n, rfl, hl, rl⟩ := hv.listE
    have e := vsize rl
    refine wpAny_truthy_list ⟨_, r.wr.φ _ _ hl, rfl, n, rfl⟩ (by unfold big at hz; omega) (.b (r.toks _) ?_)
    rw [isEmpty_dec vs _ e]; exact h
  | tup l =>
    have hz := hv.tupZ
    obtain ⟨l, vs, n, rfl, hl, rl⟩ := hv.tupE
    have e := vsize rl
    refine truthy_tuple ⟨_, r.wr.φ _ _ hl, rfl, n, rfl⟩ (by unfold big at hz; omega) (.b (r.toks _) ?_)
    rw [isEmpty_dec vs _ e]; exact h
  | «mut» i =>
    obtain ⟨l, hl, h⟩ := getMuE h
    obtain ⟨b, vs, n, rfl, _, hb, hz, rb⟩ := r.mutE hv hl
    have e := vsize rb
    refine wpAny_truthy_list ⟨_, hb, rfl, n, rfl⟩ (by unfold big at hz; omega) (.b (r.toks _) ?_)
    rw [isEmpty_dec vs _ e]; exact h
  | _ => exact h.elim
theorem any_eq {vs : Array Value} {ds : List D} {π : List Addr} {φ : PMap} (r : Vs π φ vs.toList ds) (P : D → Prop) (x : D) (hP : ∀ d ∈ ds, P d) (hx : P x) (one : ∀ v d e, P d → P e → V π φ v d → V π φ v e → d = e) :
    ∃ e : Value → Bool, (∀ y d, y ∈ vs → V π φ y d → P d → e y = decide (d = x)) ∧ vs.any e = decide (x ∈ ds) := by
  refine ⟨fun y => decide (V π φ y x), fun y d hy hd pd => ?_, ?_⟩
  · rw [Bool.eq_iff_iff, decide_eq_true_eq, decide_eq_true_eq]
    exact ⟨fun h => one y d x pd hx hd h, fun h => h ▸ hd⟩
  · rw [Bool.eq_iff_iff, decide_eq_true_eq, Array.any_eq_true]
    constructor
    · rintro ⟨i, hi, h⟩
      rw [decide_eq_true_eq] at h
      obtain ⟨d, hd, vd⟩ := vsAt r hi
      have := one _ d x (hP d (List.mem_of_getElem? hd)) hx vd h
      exact this ▸ List.mem_of_getElem? hd
    · intro h
      refine (List.getElem?_of_mem h).elim fun i hi => ?_
      have hi' : i < vs.size := by rw [vsize r]; exact (List.getElem?_eq_some_iff.mp hi).1
      obtain ⟨d, hd, vd⟩ := vsAt r hi'
      rw [hi] at hd; cases hd
      exact ⟨i, hi', decide_eq_true vd⟩
theorem memE {vs : Array Value} {ds : List D} {π : List Addr} {φ : PMap} (r : Vs π φ vs.toList ds) {y : Value} (h : y ∈ vs) : ∃ d ∈ ds, V π φ y d := by
  obtain ⟨i, hi, rfl⟩ := Array.getElem_of_mem h
  obtain ⟨d, hd, vd⟩ := vsAt r hi
  exact ⟨d, List.mem_of_getElem? hd, vd⟩
theorem in_core {sh : Sh} {x : D} {y : List D} {vs : Array Value} {u : Value} (r : Rel G F W ρ μ s) (a : AOk F W k A) (hx : Has sh x) (hy : ∀ d ∈ y, Has sh d) (hd : sh.dp ≤ 100) (ru : Vs W.π W.φ vs.toList y) (hu : V W.π W.φ u x) :
    ∃ e : Value → Bool, (∀ z, z ∈ vs → EqAt A.in1 s z u (e z)) ∧ vs.any e = decide (x ∈ y) := by
  refine (any_eq ru (Has sh) x hy hx fun v d e a b c d' => V.one sh v d e a b c d').elim fun e zz32 => zz32.elim fun h1 h2 => ?_
  refine ⟨e, fun z hz => ?_, h2⟩
  refine (memE ru hz).elim fun d zz33 => zz33.elim fun hd' vd => ?_
  refine eqCast (eqAt r.wr.φ sh A.in1 z u d x (hy d hd') hx vd hu ?_) (h1 z d hz vd (hy d hd')).symm
  have := a.u
  show A.units + 1 + _ < _
  rw [cl]; exact ar45 hd this
theorem not_dec {p : Prop} [Decidable p] [Decidable (¬ p)] : decide (¬ p) = !decide p := by by_cases h : p <;> simp [h]
theorem Qc {Q : D → Rho → Mu → Prop} {b c : Bool} (h : Q (.bool b) ρ μ) (e : b = c) : Q (.bool c) ρ μ := e ▸ h
theorem beq_dec {α : Type} [BEq α] [LawfulBEq α] {a b : α} [Decidable (a = b)] : decide (a = b) = (a == b) := by rw [Bool.eq_iff_iff, decide_eq_true_eq, beq_iff_eq]
theorem bne_dec {α : Type} [BEq α] [LawfulBEq α] {a b : α} [Decidable (a ≠ b)] : decide (a ≠ b) = (a != b) := by rw [Bool.eq_iff_iff, decide_eq_true_eq, bne_iff_ne]
theorem Rel.isL (r : Rel G F W ρ μ s) {l : Addr} {vs : Array Value} {n : Nat} (h : W.φ l = some (listO vs n)) : s.heap.IsList l vs := ⟨_, r.wr.φ _ _ h, rfl, n, rfl⟩
theorem Rel.isT (r : Rel G F W ρ μ s) {l : Addr} {vs : Array Value} {n : Nat} (h : W.φ l = some (tupO vs n)) : s.heap.IsTuple l vs := ⟨_, r.wr.φ _ _ h, rfl, n, rfl⟩
theorem Has.tupAll {sh : Sh} {l l' : List D} (h : Has sh (.tup l)) (h' : Has sh (.tup l')) : ∃ ss, sh = .tup ss ∧ HasAll ss l ∧ HasAll ss l' := by
  cases sh with
  | tup ss => exact ⟨ss, rfl, h, h'⟩
  | _ => exact h.elim
noncomputable def copOp : Cop → CmpOp
  | .eq => .Eq | .ne => .NotEq | .lt => .Lt | .le => .LtE | .gt => .Gt | .ge => .GtE | .isin => .In | .notin => .NotIn | .is => .Is | .isnot => .IsNot
theorem copE (op : CmpOp) : copOp (trCmp op) = op := by cases op <;> rfl
theorem eq_sound {x y : D} {Q : D → Rho → Mu → Prop} {X} (h : eqD x y fun c => Q (.bool c) ρ μ) : Op2 G F k RV (compareOp .Eq) x y ρ μ Q X := fun W A s v u a r hv hu => by
  cases x with
  | int x => obtain ⟨y, rfl, h⟩ := asIE h; obtain ⟨t, rfl⟩ := hv.intE; obtain ⟨t', rfl⟩ := hu.intE; exact PyProof.Rows.eq_int (.val r (.bool _) (Qc h beq_dec))
  | str x => obtain ⟨y, rfl, h⟩ := asSE h; obtain ⟨p, t, rfl, rfl⟩ := hv.strE; obtain ⟨q, t', rfl, rfl⟩ := hu.strE; exact P.eq_str (.val r (.bool _) (Qc h beq_dec))
  | bytes x => obtain ⟨y, rfl, h⟩ := asBE h; obtain ⟨p, t, rfl, rfl, _⟩ := hv.bytesE; obtain ⟨q, t', rfl, rfl, _⟩ := hu.bytesE; exact PySem.W.eq_bytes (.val r (.bool _) (Qc h beq_dec))
  | tup x =>
    obtain ⟨y, rfl, ⟨sh, h1, h2, h3⟩, h⟩ := asTE h
    obtain ⟨ss, rfl, g1, g2⟩ := h1.tupAll h2
    have h3 : Sh.dps ss + 1 ≤ 100 := h3
    have hcl := cl
    have hu' := a.u
    exact rcTup r.wr.φ g1 g2 hv hu (by exact ar46 h3 hcl hu') _ _ _ _ (.val r (.bool _) h)
  | _ => exact h.elim
theorem ne_sound {x y : D} {Q : D → Rho → Mu → Prop} {X} (h : neD x y fun c => Q (.bool c) ρ μ) : Op2 G F k RV (compareOp .NotEq) x y ρ μ Q X := fun W A s v u a r hv hu => by
  cases x with
  | int x => obtain ⟨y, rfl, h⟩ := asIE h; obtain ⟨t, rfl⟩ := hv.intE; obtain ⟨t', rfl⟩ := hu.intE; exact PyProof.Rows.ne_int (.val r (.bool _) (Qc h bne_dec))
  | str x => obtain ⟨y, rfl, h⟩ := asSE h; obtain ⟨p, t, rfl, rfl⟩ := hv.strE; obtain ⟨q, t', rfl, rfl⟩ := hu.strE; exact P.ne_str (.val r (.bool _) (Qc h bne_dec))
  | bytes x => obtain ⟨y, rfl, h⟩ := asBE h; obtain ⟨p, t, rfl, rfl, _⟩ := hv.bytesE; obtain ⟨q, t', rfl, rfl, _⟩ := hu.bytesE; exact PySem.W.ne_bytes (.val r (.bool _) (Qc h bne_dec))
  | _ => exact h.elim
theorem lt_sound {x y : D} {Q : D → Rho → Mu → Prop} {X} (h : ltD x y fun c => Q (.bool c) ρ μ) : Op2 G F k RV (compareOp .Lt) x y ρ μ Q X := fun W A s v u a r hv hu => by
  cases x with
  | int x => obtain ⟨y, rfl, h⟩ := asIE h; obtain ⟨t, rfl⟩ := hv.intE; obtain ⟨t', rfl⟩ := hu.intE; exact PyProof.Rows.lt_int (.val r (.bool _) h)
  | list x =>
    obtain ⟨y, rfl, n, i, m, p, n', i', m', p', e1, e2, hi, h⟩ := asLE h
    rw [← e1] at hv; rw [← e2] at hu
    have hcl := cl
    have hu' := a.u
    exact CmpAt.heads r.wr.φ hv hu hi (by exact ar47 hcl hu') _ _ _ _ (.val r (.bool _) (h _ rfl))
  | _ => exact h.elim
theorem isn_sound {x y : D} {Q : D → Rho → Mu → Prop} {X} (h : isND x y fun c => Q (.bool c) ρ μ) : Op2 G F k RV (compareOp .Is) x y ρ μ Q X := fun W A s v u a r hv hu => by
  cases y with
  | none => cases x with
    | none => cases hv; cases hu; exact is_none (.val r (.bool _) h)
    | list l => obtain ⟨l, vs, n, rfl, hl, rl⟩ := hv.listE; cases hu; exact is_ref_none (.val r (.bool _) h)
    | _ => exact h.elim
  | _ => exact h.elim
theorem isnot_sound {x y : D} {Q : D → Rho → Mu → Prop} {X} (h : isND x y fun c => Q (.bool !c) ρ μ) : Op2 G F k RV (compareOp .IsNot) x y ρ μ Q X := fun W A s v u a r hv hu => by
  cases y with
  | none => cases x with
    | none => cases hv; cases hu; exact isNot_none (.val r (.bool _) h)
    | list l => obtain ⟨l, vs, n, rfl, hl, rl⟩ := hv.listE; cases hu; exact isnot_ref_none (.val r (.bool _) h)
    | _ => exact h.elim
  | _ => exact h.elim
noncomputable abbrev InSh (x : D) (y : List D) : Prop := ∃ sh, Has sh x ∧ (∀ d ∈ y, Has sh d) ∧ sh.dp ≤ 100
theorem in_sound {x y : D} {Q : D → Rho → Mu → Prop} {X} (h : inD y μ fun y => InSh x y ∧ Q (.bool (decide (x ∈ y))) ρ μ) : Op2 G F k RV (compareOp .In) x y ρ μ Q X := fun W A s v u a r hv hu => by
  cases y with
  | tup y =>
    obtain ⟨⟨sh, h1, h2, h3⟩, h⟩ := h
    obtain ⟨l, vs, n, rfl, hl, rl⟩ := hu.tupE
    obtain ⟨e, q1, q2⟩ := in_core r a h1 h2 h3 rl hv
    exact in_tupleAt e (r.isT hl) q1 (.val r (.bool _) (Qc h q2.symm))
  | list y =>
    obtain ⟨⟨sh, h1, h2, h3⟩, h⟩ := h
    obtain ⟨l, vs, n, rfl, hl, rl⟩ := hu.listE
    obtain ⟨e, q1, q2⟩ := in_core r a h1 h2 h3 rl hv
    exact in_listAt e (r.isL hl) q1 (.val r (.bool _) (Qc h q2.symm))
  | «mut» i =>
    obtain ⟨l, hl, ⟨sh, h1, h2, h3⟩, h⟩ := getMuE h
    obtain ⟨b, vs, n, rfl, _, hb, hz, rb⟩ := r.mutE hu hl
    obtain ⟨e, q1, q2⟩ := in_core r a h1 h2 h3 rb hv
    exact in_listAt e ⟨_, hb, rfl, n, rfl⟩ q1 (.val r (.bool _) (Qc h q2.symm))
  | _ => exact h.elim
theorem notin_sound {x y : D} {Q : D → Rho → Mu → Prop} {X} (h : inD y μ fun y => InSh x y ∧ Q (.bool (decide (x ∉ y))) ρ μ) : Op2 G F k RV (compareOp .NotIn) x y ρ μ Q X := fun W A s v u a r hv hu => by
  cases y with
  | tup y =>
    obtain ⟨⟨sh, h1, h2, h3⟩, h⟩ := h
    obtain ⟨l, vs, n, rfl, hl, rl⟩ := hu.tupE
    obtain ⟨e, q1, q2⟩ := in_core r a h1 h2 h3 rl hv
    exact notIn_tupleAt e (r.isT hl) q1 (.val r (.bool _) (Qc h (by rw [q2]; exact not_dec)))
  | list y =>
    obtain ⟨⟨sh, h1, h2, h3⟩, h⟩ := h
    obtain ⟨l, vs, n, rfl, hl, rl⟩ := hu.listE
    obtain ⟨e, q1, q2⟩ := in_core r a h1 h2 h3 rl hv
    exact notIn_listAt e (r.isL hl) q1 (.val r (.bool _) (Qc h (by rw [q2]; exact not_dec)))
  | «mut» i =>
    obtain ⟨l, hl, ⟨sh, h1, h2, h3⟩, h⟩ := getMuE h
    obtain ⟨b, vs, n, rfl, _, hb, hz, rb⟩ := r.mutE hu hl
    obtain ⟨e, q1, q2⟩ := in_core r a h1 h2 h3 rb hv
    exact notIn_listAt e ⟨_, hb, rfl, n, rfl⟩ q1 (.val r (.bool _) (Qc h (by rw [q2]; exact not_dec)))
  | _ => exact h.elim
theorem cmp_sound {o : Cop} {x y : D} {Q : D → Rho → Mu → Prop} {X} (h : vcCmp o x y μ fun d => Q d ρ μ) : Op2 G F k RV (compareOp (copOp o)) x y ρ μ Q X := by
  cases o with
  | eq => exact eq_sound h
  | ne => exact ne_sound h
  | lt => exact lt_sound h
  | isin => exact in_sound h
  | notin => exact notin_sound h
  | is => exact isn_sound h
  | isnot => exact isnot_sound h
  | le =>
    obtain ⟨x, rfl, h⟩ := asIE h; obtain ⟨y, rfl, h⟩ := asIE h
    exact fun W A s v u a r hv hu => by obtain ⟨t, rfl⟩ := hv.intE; obtain ⟨t', rfl⟩ := hu.intE; exact PyProof.Rows.le_int (.val r (.bool _) h)
  | gt =>
    obtain ⟨x, rfl, h⟩ := asIE h; obtain ⟨y, rfl, h⟩ := asIE h
    exact fun W A s v u a r hv hu => by obtain ⟨t, rfl⟩ := hv.intE; obtain ⟨t', rfl⟩ := hu.intE; exact PyProof.Rows.gt_int (.val r (.bool _) h)
  | ge =>
    obtain ⟨x, rfl, h⟩ := asIE h; obtain ⟨y, rfl, h⟩ := asIE h
    exact fun W A s v u a r hv hu => by obtain ⟨t, rfl⟩ := hv.intE; obtain ⟨t', rfl⟩ := hu.intE; exact PyProof.Rows.ge_int (.val r (.bool _) h)
end
section
open PySem.SeqAt
variable {G : GG} {F : Fm} {k : Nat} {ρ : Rho} {μ : Mu} {W : Wd} {s : Shared} {A : Around}
theorem sub_false (slice : Expr) (o i : Value) : ∃ ops, subscripted slice false o i = operate ops (getItem o i) := by
  unfold subscripted
  split
  · exact ⟨_, rfl⟩
  · exact absurd ‹_› Bool.false_ne_true
  · exact ⟨_, rfl⟩
theorem tail_of {value slice : Expr} {o i : Value} {T id : String} {Q : Value → Shared → Prop} {E : Value → Shared → Prop} (hT : s.TypeIs o T)
    (hl : typeLookup (.type T) "__getitem__" = pure (some (.builtin id))) (hg : wpAny G.M A (getItem o i) Q E s) : wpAny G.M A (subscriptTail value slice o i) Q E s :=
  let ⟨_, h⟩ := sub_false slice o i
  tail_any hT hl hg h
theorem look_list : typeLookup (.type "list") "__getitem__" = pure (some (.builtin "list.__getitem__")) := list_getitem_lookup
theorem look_tuple : typeLookup (.type "tuple") "__getitem__" = pure (some (.builtin "tuple.__getitem__")) := F.slot_tuple_getitem.lookup
theorem look_str : typeLookup (.type "str") "__getitem__" = pure (some (.builtin "str.__getitem__")) := F.slot_str_getitem.lookup
theorem look_bytes : typeLookup (.type "bytes") "__getitem__" = pure (some (.builtin "bytes.__getitem__")) := PySem.W.FB.slot_bytes_getitem.lookup
theorem atDE {l : List D} {n : Int} {K : D → Prop} (h : atD l n K) : ∃ d, 0 ≤ n ∧ n < l.length ∧ l[n.toNat]? = some d ∧ K d := by
  refine h.elim fun h0 h => ?_
  split at h
  · rename_i d e
    have := (List.getElem?_eq_some_iff.mp e).1
    exact ⟨d, h0, by exact ar48 this, e, h⟩
  · exact h.elim
theorem getA {π : List Addr} {φ : PMap} {vs : Array Value} {ds : List D} (r : Vs π φ vs.toList ds) {i : Nat} {d : D} (h : ds[i]? = some d) : ∃ v, vs[i]? = some v ∧ V π φ v d := by
  refine (r.get h).elim fun v zz15 => zz15.elim fun e hv => ?_
  exact ⟨v, by rw [← e, Array.getElem?_toList], hv⟩
theorem idx_sound {value slice : Expr} {x y : D} {Q : D → Rho → Mu → Prop} {X} (h : vcIdx x y μ fun d => Q d ρ μ) : Op2 G F k RV (subscriptTail value slice) x y ρ μ Q X := fun W A s v u a r hv hu => by
  obtain ⟨n, rfl, h⟩ := asIE h
  cases x with
  | list l =>
    obtain ⟨d, h0, h1, hd, h⟩ := atDE h
    obtain ⟨t, rfl⟩ := hu.intE
    have hz := hv.listZ
    obtain ⟨l, vs, n, rfl, hl, rl⟩ := hv.listE
    obtain ⟨v, e, hv⟩ := getA rl hd
    exact tail_of (r.isL hl).typeIs look_list (wpAny_getItem_list (r.isL hl) h0 (by unfold big at hz; omega) e (.val r hv h))
  | tup l =>
    obtain ⟨d, h0, h1, hd, h⟩ := atDE h
    obtain ⟨t, rfl⟩ := hu.intE
    have hz := hv.tupZ
    obtain ⟨l, vs, n, rfl, hl, rl⟩ := hv.tupE
    obtain ⟨v, e, hv⟩ := getA rl hd
    exact tail_of (r.isT hl).typeIs look_tuple (getItem_tuple (r.isT hl) (by lia) (by unfold big at hz; omega) (seqIndex_of h0 (by rw [vsize rl]; exact h1)) e (.val r hv h))
  | «mut» m =>
    refine (getMuE h).elim fun l' zz38 => zz38.elim fun hl' h => ?_
    obtain ⟨d, h0, h1, hd, h⟩ := atDE h
    obtain ⟨t, rfl⟩ := hu.intE
    obtain ⟨b, vs, n, rfl, _, hb, hz, rb⟩ := r.mutE hv hl'
    refine (getA rb hd).elim fun v zz50 => zz50.elim fun e hv => ?_
    have hL : s.heap.IsList b vs := ⟨_, hb, rfl, n, rfl⟩
    have := vsize rb
    exact tail_of hL.typeIs look_list (wpAny_getItem_list hL h0 (by unfold big at hz; omega) e (.val r hv h))
  | bytes b =>
    obtain ⟨h0, h⟩ := h
    obtain ⟨t, rfl⟩ := hu.intE
    obtain ⟨p, t', rfl, rfl, hz⟩ := hv.bytesE
    cases e : p.toList[n.toNat]? with
    | none => rw [e] at h; exact h.elim
    | some z =>
      rw [e] at h
      have hlt := (List.getElem?_eq_some_iff.mp e).1
      rw [show p = p.toList.toArray from rfl]
      refine tail_of (PySem.W.typeIs_bytes _ _ _) look_bytes (PySem.W.getItem_bytes (by rw [Array.length_toList]; unfold big at hz; exact ar44 hz) h0 (by exact ar48 hlt) (.val (r.toks _) (.int _ _) ?_))
      have : (p.toList.getD n.toNat 0) = z := by rw [List.getD_eq_getElem?_getD, e]; rfl
      rw [this]; exact h
  | _ => exact h.elim
theorem r_idx {value slice : Expr} {p : Pos} {Q : D → Rho → Mu → Prop} {X} (h : WG G F k RV ρ μ (eval value F.env) (fun x ρ₁ μ₁ => WG G F k RV ρ₁ μ₁ (eval slice F.env) (fun y ρ₂ μ₂ => vcIdx x y μ₂ fun d => Q d ρ₂ μ₂) X) X) :
    WG G F k RV ρ μ (eval (.Subscript value slice p) F.env) Q X := fun W A s ha hr =>
  Subscript_ (wpAny_mono (h W A s ha hr) (fun v s1 ⟨W1, a, ρ1, μ1, le1, r1, v1, q1⟩ => wpAny_mono (q1 W1 A s1 (ha.up le1) r1) (fun u s2 ⟨W2, b, ρ2, μ2, le2, r2, v2, q2⟩ =>
    wpAny_mono (idx_sound q2 W2 A s2 v u (ha.up (le1.trans le2)) r2 (v1.up le2) v2) (fun zz zz p => (p.up le2).up le1) fun zz zz p => (p.up le2).up le1) fun zz zz p => p.up le1) fun zz zz p => p)
end
section
open PySem.SeqAt
variable {G : GG} {F : Fm} {k : Nat} {ρ : Rho} {μ : Mu} {W : Wd} {s : Shared} {A : Around}
theorem bounds_range (a b n : Nat) (h1 : a ≤ b) (h2 : b ≤ n) : sliceBounds (some (a : Int)) (some (b : Int)) none n = ((a : Int), (b : Int), (1 : Int)) := by
  rw [sliceBounds_plain]
  simp only [Option.elim_some, clipAt_nat]
  rw [Nat.min_eq_left (Nat.le_trans h1 h2), Nat.min_eq_left h2]
theorem bounds_to (b n : Nat) (h2 : b ≤ n) : sliceBounds none (some (b : Int)) none n = ((0 : Int), (b : Int), (1 : Int)) := by
  rw [sliceBounds_plain]
  simp only [Option.elim_some, Option.elim_none, clipAt_nat]
  rw [Nat.min_eq_left h2]; rfl
theorem sliced_run (b : Array UInt8) (x y : Nat) (h1 : x ≤ y) (h2 : y ≤ b.size) : (Builtin.Bytes.sliced b x y 1).toList = (b.toList.drop x).take (y - x) := by
  unfold Builtin.Bytes.sliced
  have : sliceRange (x : Int) (y : Int) 1 = (List.range (y - x)).map (x + ·) := sliceRange_one x y
  rw [this, pick_run]
theorem push_keeps (h : Heap) (o : Obj) : ∀ b o', h.get? b = some o' → (h.push o).get? b = some o' := fun zz zz e => Heap.get?_push_of_some _ e
noncomputable def OpSl (G : GG) (F : Fm) (k : Nat) (x : D) (lo hi st : Option Int) (ρ : Rho) (μ : Mu) (Q : D → Rho → Mu → Prop) (X : List Nat → Rho → Mu → Prop) : Prop :=
  ∀ W A s v sl vl vu vs, AOk F W k A → Rel G F W ρ μ s → V W.π W.φ v x → s.heap.IsSliceOf sl vl vu vs → IsPart vl lo → IsPart vu hi → IsPart vs st → wpAny G.M A (getItem v (.ref sl)) (PQ G F W RV Q) (PX G F W X) s
theorem sl_list {l : List D} {lo hi st : Option Int} {m : List D} {Q : D → Rho → Mu → Prop} {X} (h0 : st ≠ some 0)
    (hm : ∀ vs : Array Value, vs.size = l.length → ∀ π φ, Vs π φ vs.toList l → Vs π φ (slicePick vs lo hi st).toList m) (h : Q (.list m) ρ μ) : OpSl G F k (.list l) lo hi st ρ μ Q X := fun W A s v sl vl vu vs a r hv hs pl pu ps => by
  have hz := hv.listZ
  obtain ⟨b, us, n, rfl, hl, rl⟩ := hv.listE
  have e := vsize rl
  refine wpAny_getItem_list_slice (r.isL hl) hs pl pu ps h0 (.new r rfl s.toks (fun W' le e' => .list e' ?_ ((hm us e _ _ rl).up le)) h) (by rw [e]; exact hz)
  have := slicePick_size_le us lo hi st
  exact ar52 hz e this
theorem isPart_val {v : Value} {o : Option Int} (h : IsPart v o) : ∃ p : Option (Int × Tok), v = partValue p ∧ p.map (·.1) = o := by
  cases h with
  | none => exact ⟨none, rfl, rfl⟩
  | int i t => exact ⟨some (i, t), rfl, rfl⟩
theorem sl_str {l m : List Nat} {lo hi : Option Int} {Q : D → Rho → Mu → Prop} {X}
    (hm : ∀ x : Str, x.cps.toList = l → (StrLaws.sliceText x lo hi).cps.toList = m) (hz : m.length ≤ l.length) (h : Q (.str m) ρ μ) : OpSl G F k (.str l) lo hi none ρ μ Q X := fun W A s v sl vl vu vs a r hv hs pl pu ps => by
  have hz' := hv.strZ
  obtain ⟨x, t, rfl, hx⟩ := hv.strE
  obtain ⟨p, rfl, rfl⟩ := isPart_val pl
  obtain ⟨q, rfl, rfl⟩ := isPart_val pu
  cases ps
  have e := hm x hx
  refine wpAny_getItem_str_slice (st := none) hs rfl ?_
  unfold StrLaws.sliceText at e
  unfold sliceMade slicePicked
  simp only [Option.map_none, Option.getD_none]
  split
  · rename_i hc
    rw [if_pos hc] at e
    exact .val r (.strI e (Nat.le_trans hz hz')) h
  · rename_i hc
    rw [if_neg hc] at e
    refine ⟨?_, .val (r.toks _) (.strI e (Nat.le_trans hz hz')) h⟩
    rw [len_cps, e]; exact Nat.le_trans hz hz'
theorem sl_bytes {l : List UInt8} {lo hi : Option Int} {x y : Nat} {Q : D → Rho → Mu → Prop} {X} (hb : sliceBounds lo hi none l.length = ((x : Int), (y : Int), (1 : Int))) (h1 : x ≤ y) (h2 : y ≤ l.length)
    (h : Q (.bytes ((l.drop x).take (y - x))) ρ μ) : OpSl G F k (.bytes l) lo hi none ρ μ Q X := fun W A s v sl vl vu vs a r hv hs pl pu ps => by
  obtain ⟨b, t, rfl, rfl, hz⟩ := hv.bytesE
  cases ps
  rw [Array.length_toList] at hb h2
  have hp : (KBy.picked b lo hi).toList = (b.toList.drop x).take (y - x) := by
    unfold KBy.picked; rw [hb]; exact sliced_run b x y h1 h2
  have hs' : (KBy.picked b lo hi).size ≤ big := by
    rw [← Array.length_toList, hp, List.length_take, List.length_drop, Array.length_toList]; exact ar49 hz
  refine getItem_meets (PySem.W.typeIs_bytes s b t) (by decide) PySem.W.FB.slot_bytes_getitem PySem.W.FB.entry_bytes_getitem (PySem.W.FB.args_bytes_getitem_2 _ _) (KBc.meets_slice2 b t sl pl pu) ⟨hs, sizeLine_big ▸ hs', fun t' tk => ?_⟩
  rw [← hp] at h
  exact .val (r.toks _) (.bytes _ t' hs') h
end
section
open PySem.SeqAt
variable {G : GG} {F : Fm} {k : Nat} {ρ : Rho} {μ : Mu} {W : Wd} {s : Shared} {A : Around}
noncomputable def isSeqD : D → Prop
  | .str _ => True
  | .list _ => True
  | .bytes _ => True
  | _ => False
theorem tyD (r : Rel G F W ρ μ s) {v : Value} {d : D} (hv : V W.π W.φ v d) (h : isSeqD d) : ∃ T id, s.TypeIs v T ∧ typeLookup (.type T) "__getitem__" = pure (some (.builtin id)) := by
  cases d with
  | str l => obtain ⟨x, t, rfl, _⟩ := hv.strE; exact ⟨_, _, typeIs_str _ _ _, look_str⟩
  | list l => obtain ⟨b, us, n, rfl, hl, rl⟩ := hv.listE; exact ⟨_, _, (r.isL hl).typeIs, look_list⟩
  | bytes l => obtain ⟨x, t, rfl, _⟩ := hv.bytesE; exact ⟨_, _, PySem.W.typeIs_bytes _ _ _, look_bytes⟩
  | _ => exact h.elim
theorem slice_tail {value slice : Expr} {x : D} {lo hi st : Option Int} {Q : D → Rho → Mu → Prop} {X} (hx : isSeqD x) (h : OpSl G F k x lo hi st ρ μ Q X) {v vl vu vs : Value} (a : AOk F W k A) (r : Rel G F W ρ μ s)
    (hv : V W.π W.φ v x) (pl : IsPart vl lo) (pu : IsPart vu hi) (ps : IsPart vs st) :
    wpAny G.M A (subscriptTail value slice v (.ref s.heap.objs.size)) (PQ G F W RV Q) (PX G F W X) { s with heap := s.heap.push { cls := .type "slice", data := .fields #[vl, vu, vs] } } := by
  have r' : Rel G F W ρ μ { s with heap := s.heap.push { cls := .type "slice", data := .fields #[vl, vu, vs] } } := r.keeps (t := s.toks) (push_keeps _ _)
  refine (tyD r' hv hx).elim fun T zz8 => zz8.elim fun id zz9 => zz9.elim fun hT hl => ?_
  exact tail_of hT hl (h W A _ v _ vl vu vs a r' hv (Heap.IsSliceOf.new _ _ _ _) pl pu ps)
theorem from_sound {x y : D} {Q : D → Rho → Mu → Prop} {X} (h : vcFrom x y fun d => Q d ρ μ) : ∃ n, y = .int n ∧ isSeqD x ∧ OpSl G F k x (some n) none none ρ μ Q X := by
  obtain ⟨n, rfl, h⟩ := asIE h
  cases x with
  | str l =>
    refine h.elim fun zz12 h => zz12.elim fun h0 h1 => ?_
    refine ⟨n, rfl, trivial, sl_str (m := l.drop n.toNat) (fun z hz => ?_) (by rw [List.length_drop]; exact Nat.sub_le _ _) h⟩
    rw [StrLaws.sliceText_from ⟨h0, by rw [hz]; exact h1⟩, hz]
    show List.take _ _ = _
    rw [List.take_of_length_le]
    rw [List.length_drop]; exact ar53
  | list l =>
    obtain ⟨⟨h0, h1⟩, h⟩ := h
    refine ⟨n, rfl, trivial, sl_list (m := l.drop n.toNat) (by simp) (fun vs hz π φ r => ?_) h⟩
    have := slicePick_from' vs n.toNat
    rw [show ((n.toNat : Nat) : Int) = n by exact ar54 h0] at this
    rw [this]; exact r.drop _
  | _ => exact h.elim
theorem to_sound {x y : D} {Q : D → Rho → Mu → Prop} {X} (h : vcTo x y fun d => Q d ρ μ) : ∃ n, y = .int n ∧ isSeqD x ∧ OpSl G F k x none (some n) none ρ μ Q X := by
  obtain ⟨n, rfl, h⟩ := asIE h
  cases x with
  | str l =>
    refine h.elim fun zz16 h => zz16.elim fun h0 h1 => ?_
    refine ⟨n, rfl, trivial, sl_str (m := l.take n.toNat) (fun z hz => ?_) (by rw [List.length_take]; exact ar55) h⟩
    rw [StrLaws.sliceText_to ⟨h0, by rw [hz]; exact h1⟩, hz]
    show List.take _ (List.drop 0 _) = _
    rw [List.drop_zero, Int.sub_zero]
  | list l =>
    obtain ⟨⟨h0, h1⟩, h⟩ := h
    refine ⟨n, rfl, trivial, sl_list (m := l.take n.toNat) (by simp) (fun vs hz π φ r => ?_) h⟩
    have := slicePick_upto' vs n.toNat
    rw [show ((n.toNat : Nat) : Int) = n by exact ar54 h0] at this
    rw [this]; exact r.take _
  | bytes l =>
    obtain ⟨⟨h0, h1⟩, h⟩ := h
    refine ⟨n, rfl, trivial, sl_bytes (x := 0) (y := n.toNat) ?_ (Nat.zero_le _) (by exact ar56 h1) ?_⟩
    · have := bounds_to n.toNat l.length (by exact ar56 h1)
      rw [show ((n.toNat : Nat) : Int) = n by exact ar54 h0] at this ⊢
      exact this
    · rw [List.drop_zero, Nat.sub_zero]; exact h
  | _ => exact h.elim
theorem bet_sound {x y z : D} {Q : D → Rho → Mu → Prop} {X} (h : vcBet x y z fun d => Q d ρ μ) : ∃ n m, y = .int n ∧ z = .int m ∧ isSeqD x ∧ OpSl G F k x (some n) (some m) none ρ μ Q X := by
  obtain ⟨l, rfl, h⟩ := asBE h
  obtain ⟨n, rfl, h⟩ := asIE h
  obtain ⟨m, rfl, ⟨h0, h1, h2⟩, h⟩ := asIE h
  refine ⟨n, m, rfl, rfl, trivial, sl_bytes (x := n.toNat) (y := m.toNat) ?_ (by exact ar57 h1) (by exact ar56 h2) ?_⟩
  · have := bounds_range n.toNat m.toNat l.length (by exact ar57 h1) (by exact ar56 h2)
    rw [show ((n.toNat : Nat) : Int) = n by exact ar54 h0, show ((m.toNat : Nat) : Int) = m by exact ar58 h0 h1] at this ⊢
    exact this
  · rw [show m.toNat - n.toNat = (m - n).toNat by exact ar59 h0]; exact h
theorem Vs.pick {π : List Addr} {φ : PMap} {vs : Array Value} {ds : List D} (r : Vs π φ vs.toList ds) : ∀ is : List Nat, Vs π φ (is.filterMap (vs[·]?)) (is.filterMap (ds[·]?))
  | [] => .nil
  | i :: is => by
    by_cases h : i < vs.size
    · obtain ⟨d, hd, vd⟩ := vsAt r h
      rw [List.filterMap_cons, List.filterMap_cons, Array.getElem?_eq_getElem h, hd]
      exact .cons vd (r.pick is)
    · have h2 : ¬ i < ds.length := by rw [← vsize r]; exact h
      rw [List.filterMap_cons, List.filterMap_cons, Array.getElem?_eq_none (by exact Nat.le_of_not_lt ‹_›), List.getElem?_eq_none (by exact Nat.le_of_not_lt ‹_›)]
      exact r.pick is
theorem step_sound {x y z : D} {Q : D → Rho → Mu → Prop} {X} (h : vcStep x y z fun d => Q d ρ μ) : ∃ n m, y = .int n ∧ z = .int m ∧ isSeqD x ∧ OpSl G F k x (some n) none (some m) ρ μ Q X := by
  obtain ⟨l, rfl, h⟩ := asLE h
  obtain ⟨n, rfl, h⟩ := asIE h
  obtain ⟨m, rfl, ⟨h0, h1⟩, h⟩ := asIE h
  have hl : ∀ vs : Array Value, vs.size = l.length → (slicePick vs (some n) none (some m)).toList = ((sliceRange (sliceBounds (some n) none (some m) l.length).1 (sliceBounds (some n) none (some m) l.length).2.1 (sliceBounds (some n) none (some m) l.length).2.2).filterMap (vs[·]?)) := fun vs e => by
    unfold slicePick; rw [e]
  refine ⟨n, m, rfl, rfl, trivial, fun W A s v sl vl vu vs a r hv hs pl pu ps => ?_⟩
  obtain ⟨b, us, k', e, hb, rl⟩ := hv.listE
  have hsz := slicePick_size_le us (some n) none (some m)
  have e2 := vsize rl
  refine sl_list (m := (sliceRange (sliceBounds (some n) none (some m) l.length).1 (sliceBounds (some n) none (some m) l.length).2.1 (sliceBounds (some n) none (some m) l.length).2.2).filterMap (l[·]?)) (by simp; exact ar60 h0) (fun vs e π φ r => by rw [hl vs e]; exact r.pick _) (h _ (fun d hd => ?_) ?_) W A s v sl vl vu vs a r hv hs pl pu ps
  · obtain ⟨i, _, hi⟩ := List.mem_filterMap.mp hd
    exact List.mem_of_getElem? hi
  · have q := (rl.pick (sliceRange (sliceBounds (some n) none (some m) l.length).1 (sliceBounds (some n) none (some m) l.length).2.1 (sliceBounds (some n) none (some m) l.length).2.2)).length
    rw [← q, ← hl us e2, Array.length_toList]; exact ar61 h1 hsz e2
theorem wp2 {Q₁ : D → Rho → Mu → Prop} {X : List Nat → Rho → Mu → Prop} {t : Sem Value} {E : Value → Shared → Prop} {Q : Value → Shared → Prop} {W₀ : Wd} (le : W₀.le W) (h : WG G F k RV ρ μ t Q₁ X) (a : AOk F W k A) (r : Rel G F W ρ μ s)
    (hq : ∀ v s' W' d ρ' μ', W.le W' → AOk F W' k A → Rel G F W' ρ' μ' s' → V W'.π W'.φ v d → Q₁ d ρ' μ' → Q v s') (he : ∀ x s', PX G F W₀ X x s' → E x s') : wpAny G.M A t Q E s :=
  wpAny_mono (h W A s a r) (fun v s' ⟨W', d, ρ', μ', le', r', v', q'⟩ => hq v s' W' d ρ' μ' le' (a.up le') r' v' q') fun x s' p => he x s' (p.up le)
theorem r_from {value lo : Expr} {p p' : Pos} {Q : D → Rho → Mu → Prop} {X} (h : WG G F k RV ρ μ (eval value F.env) (fun x ρ₁ μ₁ => WG G F k RV ρ₁ μ₁ (eval lo F.env) (fun y ρ₂ μ₂ => vcFrom x y fun d => Q d ρ₂ μ₂) X) X) :
    WG G F k RV ρ μ (eval (.Subscript value (.Slice (some lo) none none p') p) F.env) Q X := fun W A s ha hr =>
  Subscript_ (wp2 (.refl W) h ha hr (fun v s1 W1 x ρ1 μ1 le1 a1 r1 v1 q1 => wpAny_Slice (wp2 le1 q1 a1 r1 (fun u s2 W2 y ρ2 μ2 le2 a2 r2 v2 q2 => by
    rw [evalPart_none]
    refine wpAny_pure (wpAny_pure ?_)
    obtain ⟨n, rfl, hx, q⟩ := from_sound (G := G) (F := F) (k := k) (X := X) q2
    obtain ⟨t, rfl⟩ := v2.intE
    exact wpAny_mono (slice_tail hx q a2 r2 (v1.up le2) (.int n t) .none .none) (fun zz zz p => p.up (le1.trans le2)) fun zz zz p => p.up (le1.trans le2)) fun zz zz p => p)) fun zz zz p => p)
theorem r_to {value lo : Expr} {p p' : Pos} {Q : D → Rho → Mu → Prop} {X} (h : WG G F k RV ρ μ (eval value F.env) (fun x ρ₁ μ₁ => WG G F k RV ρ₁ μ₁ (eval lo F.env) (fun y ρ₂ μ₂ => vcTo x y fun d => Q d ρ₂ μ₂) X) X) :
    WG G F k RV ρ μ (eval (.Subscript value (.Slice none (some lo) none p') p) F.env) Q X := fun W A s ha hr =>
  Subscript_ (wp2 (.refl W) h ha hr (fun v s1 W1 x ρ1 μ1 le1 a1 r1 v1 q1 => wpAny_Slice (by
    rw [evalPart_none]
    exact wpAny_pure (wp2 le1 q1 a1 r1 (fun u s2 W2 y ρ2 μ2 le2 a2 r2 v2 q2 => by
      refine wpAny_pure ?_
      obtain ⟨n, rfl, hx, q⟩ := to_sound (G := G) (F := F) (k := k) (X := X) q2
      obtain ⟨t, rfl⟩ := v2.intE
      exact wpAny_mono (slice_tail hx q a2 r2 (v1.up le2) .none (.int n t) .none) (fun zz zz p => p.up (le1.trans le2)) fun zz zz p => p.up (le1.trans le2)) fun zz zz p => p))) fun zz zz p => p)
theorem r_bet {value lo hi : Expr} {p p' : Pos} {Q : D → Rho → Mu → Prop} {X} (h : WG G F k RV ρ μ (eval value F.env) (fun x ρ₁ μ₁ => WG G F k RV ρ₁ μ₁ (eval lo F.env) (fun y ρ₂ μ₂ => WG G F k RV ρ₂ μ₂ (eval hi F.env) (fun z ρ₃ μ₃ => vcBet x y z fun d => Q d ρ₃ μ₃) X) X) X) :
    WG G F k RV ρ μ (eval (.Subscript value (.Slice (some lo) (some hi) none p') p) F.env) Q X := fun W A s ha hr =>
  Subscript_ (wp2 (.refl W) h ha hr (fun v s1 W1 x ρ1 μ1 le1 a1 r1 v1 q1 => wpAny_Slice (wp2 le1 q1 a1 r1 (fun u s2 W2 y ρ2 μ2 le2 a2 r2 v2 q2 => wp2 (le1.trans le2) q2 a2 r2 (fun u' s3 W3 z ρ3 μ3 le3 a3 r3 v3 q3 => by
    rw [evalPart_none]
    refine wpAny_pure ?_
    obtain ⟨n, m, rfl, rfl, hx, q⟩ := bet_sound (G := G) (F := F) (k := k) (X := X) q3
    obtain ⟨t, rfl⟩ := v2.intE
    obtain ⟨t', rfl⟩ := v3.intE
    exact wpAny_mono (slice_tail hx q a3 r3 (v1.up (le2.trans le3)) (.int n t) (.int m t') .none) (fun zz zz p => p.up (le1.trans (le2.trans le3))) fun zz zz p => p.up (le1.trans (le2.trans le3))) fun zz zz p => p) fun zz zz p => p)) fun zz zz p => p)
theorem r_step {value lo hi : Expr} {p p' : Pos} {Q : D → Rho → Mu → Prop} {X} (h : WG G F k RV ρ μ (eval value F.env) (fun x ρ₁ μ₁ => WG G F k RV ρ₁ μ₁ (eval lo F.env) (fun y ρ₂ μ₂ => WG G F k RV ρ₂ μ₂ (eval hi F.env) (fun z ρ₃ μ₃ => vcStep x y z fun d => Q d ρ₃ μ₃) X) X) X) :
    WG G F k RV ρ μ (eval (.Subscript value (.Slice (some lo) none (some hi) p') p) F.env) Q X := fun W A s ha hr =>
  Subscript_ (wp2 (.refl W) h ha hr (fun v s1 W1 x ρ1 μ1 le1 a1 r1 v1 q1 => wpAny_Slice (wp2 le1 q1 a1 r1 (fun u s2 W2 y ρ2 μ2 le2 a2 r2 v2 q2 => by
    rw [evalPart_none]
    exact wpAny_pure (wp2 (le1.trans le2) q2 a2 r2 (fun u' s3 W3 z ρ3 μ3 le3 a3 r3 v3 q3 => by
      obtain ⟨n, m, rfl, rfl, hx, q⟩ := step_sound (G := G) (F := F) (k := k) (X := X) q3
      obtain ⟨t, rfl⟩ := v2.intE
      obtain ⟨t', rfl⟩ := v3.intE
      exact wpAny_mono (slice_tail hx q a3 r3 (v1.up (le2.trans le3)) (.int n t) .none (.int m t')) (fun zz zz p => p.up (le1.trans (le2.trans le3))) fun zz zz p => p.up (le1.trans (le2.trans le3))) fun zz zz p => p)) fun zz zz p => p)) fun zz zz p => p)
end
section
open PyProof PySem.Builtin PySem.Builtin.Str
variable {G : GG} {F : Fm} {k : Nat} {ρ : Rho} {μ : Mu} {W : Wd} {s : Shared} {A : Around}
variable {M : Model} {E : Value → Shared → Prop}
structure Wr (w : Writer) (T : List Nat) : Prop where
  whole : w.whole = none
  total : w.total = T.length
  text : w.text.cps.toList = T
  z : T.length ≤ 1000000
theorem Wr.start : Wr {} [] := ⟨rfl, rfl, rfl, Nat.zero_le _⟩
theorem Wr.add {w : Writer} {T : List Nat} (h : Wr w T) (x : List Nat) (o : Option Value) (ho : o = none) (hz : T.length + x.length ≤ 1000000) : Wr (w.add ⟨x.toArray⟩ o) (T ++ x) := by
  subst ho
  have hl : (⟨x.toArray⟩ : Str).length = x.length := List.size_toArray ..
  unfold Writer.add
  by_cases hx : x.length = 0
  · rw [if_pos (by rw [hl, hx]; rfl)]
    have := List.length_eq_zero_iff.mp hx
    subst this
    rw [List.append_nil]; exact h
  · rw [if_neg (by rw [hl]; simpa using hx)]
    refine ⟨?_, ?_, ?_, by rw [List.length_append]; exact hz⟩
    · by_cases e : w.pieces.isEmpty = true
      · rw [if_pos e]
      · rw [if_neg e]
    · show w.total + _ = _
      rw [hl, h.total, List.length_append]
    · have ht := h.text
      unfold Writer.text at ht ⊢
      simp only [List.reverse_cons, List.foldl_append, List.foldl_cons, List.foldl_nil]
      rw [← ht]
      exact cps_append _ _
theorem notLong {n : Nat} (h : n ≤ 1000000) : ¬ (tooLong n = true) := by
  unfold tooLong
  rw [sizeLine_eq]
  intro e
  have := of_decide_eq_true e
  exact ar108 h this
theorem Wr.short {w : Writer} {T : List Nat} (h : Wr w T) : ¬ (tooLong w.total = true) := notLong (h.total ▸ h.z)
theorem Wr.finish {w : Writer} {T : List Nat} {id : String} {Q : Fin → Shared → Prop} (g : Wr w T) (h : ∀ x t k, x.cps.toList = T → Q (.done (.ret (.str x t))) { s with toks := k }) : wpAny M A (w.finish id) Q E s := by
  unfold Writer.finish
  rw [g.whole]
  refine wpAny_ite (KPc.ite_no g.short ?_)
  refine wpAny_bind (wpAny_mkStr (wpAny_pure (h _ _ _ g.text)) ?_)
  rw [len_cps, g.text, sizeLine_eq]
  have := g.z; exact ar72 this
theorem afterAdd {l : List Nat} {p p' : List Value} {r r' : List Nat} {f : Nat → List Value × Writer × List Nat → Sem (ForInStep (List Value × Writer × List Nat))} {Q : List Value × Writer × List Nat → Shared → Prop} {w : Writer} {T x y : List Nat} {o : Option Value}
    (g : Wr w T) (hx : x = y) (hr : r = r') (hp : p = p') (ho : o = none) (hz : T.length + y.length ≤ 1000000) (h : ∀ w', Wr w' (T ++ y) → wpAny M A (forIn l (p', w', r') f) Q E s) : wpAny M A (forIn l (p, w.add ⟨x.toArray⟩ o, r) f) Q E s := by
  subst hx hr hp
  exact h _ (g.add x o ho hz)
theorem noObj {b : Bool} {v : Option Value} (h : b = false) : (if b = true then v else none) = none := by subst h; rfl
theorem sm {x : Int} (h : 0 ≤ x ∧ x < 1000000000) : ((x.natAbs : Nat) : Int).natAbs.log2 < 1920 := shown (N := 2 ^ 1920) (by exact Int.natCast_nonneg _) (by omega) (Int.le_refl _)
theorem tl {x : Int} (h : 0 ≤ x ∧ x < 1000000000) : (textN x).length ≤ 10 := by
  have := toString_length_le h.1 (k := 10) (by decide) (by omega)
  rw [len_cps] at this; exact this
theorem natTxt {x : Int} (h : 0 ≤ x ∧ x < 1000000000) : (Str.ofString (toString ((x.natAbs : Nat) : Int))).cps.toList = textN x := by
  have : ((x.natAbs : Nat) : Int) = x := by exact ar109 h
  rw [this]; rfl
theorem intTxt {x : Int} {c : Percent} {d : List Nat} (h : 0 ≤ x ∧ x < 1000000000) (h1 : c.alt = false) (h2 : c.type = 100) (h3 : c.prec = none) (hd : d = (Str.ofString (toString ((x.natAbs : Nat) : Int))).cps.toList) : percentInt c (decide (x < 0)) d = textN x := by
  have hneg : decide (x < 0) = false := decide_eq_false (by exact ar110 h)
  unfold percentInt
  rw [hd, natTxt h]
  simp [h1, h2, h3, hneg]
theorem l1 : (Str.ofString "expected ").cps.toList.length = 9 := by decide +kernel
theorem l2 : (Str.ofString " bytes in a string1, but only ").cps.toList.length = 30 := by decide +kernel
theorem l3 : (Str.ofString " remain").cps.toList.length = 7 := by decide +kernel
noncomputable def pf1 : List Nat := (Str.ofString "%d bytes in a string1, but only %d remain").cps.toList
noncomputable def pf2 : List Nat := (Str.ofString " bytes in a string1, but only %d remain").cps.toList
noncomputable def pf3 : List Nat := (Str.ofString "%d remain").cps.toList
noncomputable def pf4 : List Nat := (Str.ofString " remain").cps.toList
noncomputable abbrev pf : Str := Str.ofString "expected %d bytes in a string1, but only %d remain"
theorem pct_core {x y : Int} {t tx ty : Tok} {a : Addr} {n : Nat} {o : Obj} {Q : Fin → Shared → Prop} (ho : s.heap.get? a = some o) (hc : o.cls = .type "tuple") (hd : o.data = .seq #[.int x tx, .int y ty] n)
    (hx : 0 ≤ x ∧ x < 1000000000) (hy : 0 ≤ y ∧ y < 1000000000)
    (h : ∀ z t k, z.cps.toList = (Str.ofString "expected ").cps.toList ++ textN x ++ (Str.ofString " bytes in a string1, but only ").cps.toList ++ textN y ++ (Str.ofString " remain").cps.toList → Q (.done (.ret (.str z t))) { s with toks := k }) :
    wpAny (model prog w) A (percentFormat (.str pf t) pf (.ref a)) Q E s := by
  unfold percentFormat
  refine wpAny_bind (wpAny_isInstance (T := "tuple") ⟨o, ho, hc⟩ KPt.sub_tt ?_)
  refine wpAny_bind ?_
  refine wpAny_bind (wpAny_load ho ?_)
  rw [hd]
  refine wpAny_pure ?_
  refine wpAny_bind ?_
  refine wpAny_bind (wpAny_specialOf ⟨o, ho, hc⟩ F.slot_tuple_getitem.lookup ?_)
  refine wpAny_pure ?_
  refine wpAny_bind (wpAny_seqItems ho hd ?_)
  refine wpAny_bind (wpAny_pure ?_)
  refine wpAny_bind ?_
  rw [KPc.range_list]
  have w0 := Wr.start
  revert w0
  generalize ({} : Writer) = w0
  intro w0
  refine KPc.turn ?_
  refine wpAny_ite (KPc.ite_no w0.short ?_)
  refine wpAny_pure ?_
  refine afterAdd (y := (Str.ofString "expected ").cps.toList) (r' := pf1) (p' := [.int x tx, .int y ty]) w0 (by kernel_rfl) (by kernel_rfl) rfl (noObj (by kernel_rfl)) (by decide +kernel) fun w1 hw1 => ?_
  refine KPc.turn ?_
  refine wpAny_ite (KPc.ite_no hw1.short ?_)
  refine wpAny_bind ?_
  refine wpAny_bind (wpAny_of_eq (a := _) rfl ?_)
  refine wpAny_bind (wpAny_mkInt ?_)
  refine wpAny_bind (call_gives F.slot_int_repr (typeIs_int _ _ _) F.entry_int_repr (F.args_int_repr_1 _) (gives_int_repr _ _ (sm hx)) ⟨int_text_fits (sm hx), ?_⟩)
  refine wpAny_bind (wpAny_of_eq (a := some _) rfl ?_)
  refine wpAny_pure ?_
  refine wpAny_pure ?_
  refine afterAdd (y := textN x) (r' := pf2) (p' := [.int y ty]) hw1 (intTxt hx (by kernel_rfl) (by kernel_rfl) (by kernel_rfl) rfl) (by kernel_rfl) rfl (ite_self _) (by simp only [List.length_append, List.length_nil, l1, l2, l3]; have := tl hx; have := tl hy; exact ar111 ‹_›) fun w2 hw2 => ?_
  refine KPc.turn ?_
  refine wpAny_ite (KPc.ite_no hw2.short ?_)
  refine wpAny_pure ?_
  refine afterAdd (y := (Str.ofString " bytes in a string1, but only ").cps.toList) (r' := pf3) (p' := [.int y ty]) hw2 (by kernel_rfl) (by kernel_rfl) rfl (noObj (by kernel_rfl)) (by simp only [List.length_append, List.length_nil, l1, l2, l3]; have := tl hx; have := tl hy; exact ar112 ‹_›) fun w3 hw3 => ?_
  refine KPc.turn ?_
  refine wpAny_ite (KPc.ite_no hw3.short ?_)
  refine wpAny_bind ?_
  refine wpAny_bind (wpAny_of_eq (a := _) rfl ?_)
  refine wpAny_bind (wpAny_mkInt ?_)
  refine wpAny_bind (call_gives F.slot_int_repr (typeIs_int _ _ _) F.entry_int_repr (F.args_int_repr_1 _) (gives_int_repr _ _ (sm hy)) ⟨int_text_fits (sm hy), ?_⟩)
  refine wpAny_bind (wpAny_of_eq (a := some _) rfl ?_)
  refine wpAny_pure ?_
  refine wpAny_pure ?_
  refine afterAdd (y := textN y) (r' := pf4) (p' := []) hw3 (intTxt hy (by kernel_rfl) (by kernel_rfl) (by kernel_rfl) rfl) (by kernel_rfl) rfl (ite_self _) (by simp only [List.length_append, List.length_nil, l1, l2, l3]; have := tl hx; have := tl hy; exact ar113 ‹_› this) fun w4 hw4 => ?_
  refine KPc.turn ?_
  refine wpAny_ite (KPc.ite_no hw4.short ?_)
  refine wpAny_pure ?_
  refine afterAdd (y := (Str.ofString " remain").cps.toList) (r' := []) (p' := []) hw4 (by kernel_rfl) (by kernel_rfl) rfl (noObj (by kernel_rfl)) (by simp only [List.length_append, List.length_nil, l1, l2, l3]; have := tl hx; have := tl hy; exact ar114 ‹_› this) fun w5 hw5 => ?_
  refine KPc.turn ?_
  refine wpAny_ite (KPc.ite_no hw5.short ?_)
  refine wpAny_pure ?_
  exact hw5.finish h
theorem meets_pct {t : Sem Fin} {b : Addr} {vs : Array Value} {n : Nat} {P : Str → Prop}
    (h : ∀ (prog : Program) (w : World) (A : Around) (s : Shared) (Q : Fin → Shared → Prop) (E : Value → Shared → Prop), s.heap.get? b = some (tupO vs n) → (∀ z t' k, P z → Q (.done (.ret (.str z t'))) { s with toks := k }) → wpAny (model prog w) A t Q E s) :
    Meets t (fun zz R s => s.heap.get? b = some (tupO vs n) ∧ ∀ z t' k, P z → R (.ok (.ret (.str z t'))) { s with toks := k }) :=
  Meets.of_wp fun prog w A zz s hS => h prog w A.in1 s _ _ hS.1 fun z t' k hz => ⟨_, rfl, hS.2 z t' k hz⟩
theorem b_mod_str {x y : Int} {Q : D → Rho → Mu → Prop} {X} (hx : 0 ≤ x ∧ x < 1000000000) (hy : 0 ≤ y ∧ y < 1000000000)
    (h : Q (.str ((Str.ofString "expected ").cps.toList ++ textN x ++ (Str.ofString " bytes in a string1, but only ").cps.toList ++ textN y ++ (Str.ofString " remain").cps.toList)) ρ μ) :
    Op2 G F k RV (binaryOp .Mod) (.str pf.cps.toList) (.tup [.int x, .int y]) ρ μ Q X := fun W A s v u a r hv hu => by
  obtain ⟨z, t, rfl, hz⟩ := hv.strE
  have ez : z = pf := congrArg Str.mk (Array.toList_inj.mp hz)
  subst ez
  obtain ⟨b, vs, n, rfl, hb, rb⟩ := hu.tupE
  have ho := r.wr.φ _ _ hb
  obtain ⟨l⟩ := vs
  rcases rb with _ | ⟨p1, _ | ⟨p2, _ | _⟩⟩
  obtain ⟨tx, rfl⟩ := p1.intE
  obtain ⟨ty, rfl⟩ := p2.intE
  refine KPt.bin_left (op := .Mod) (T := "str") (U := "tuple") (by decide) (typeIs_str s _ t) ⟨_, ho, rfl⟩ PySem.F.fills_str_mod KPt.fills_tuple PySem.F.slot_str_mod ?_
  refine call_meets PySem.F.slot_str_mod (typeIs_str s _ t) PySem.F.entry_str_mod (PySem.F.args_str_mod_2 _ _) (meets_pct (b := b) (vs := #[.int x tx, .int y ty]) (n := n) (P := fun z => z.cps.toList = (Str.ofString "expected ").cps.toList ++ textN x ++ (Str.ofString " bytes in a string1, but only ").cps.toList ++ textN y ++ (Str.ofString " remain").cps.toList) fun prog w A s Q E ho hq => ?_) ⟨ho, fun z t' k hz => ⟨(fun e => nomatch e), ?_⟩⟩
  · rw [KPt.entry_is_r]
    exact pct_core ho rfl rfl hx hy fun z t k hz => hq z t k hz
  · exact .val (r.toks _) (.strI hz (by simp only [List.length_append, l1, l2, l3]; have := tl hx; have := tl hy; unfold big; exact ar115 ‹_› this)) h
end
section
variable {G : GG} {F : Fm} {k : Nat} {ρ : Rho} {μ : Mu} {W : Wd} {s : Shared} {A : Around}
noncomputable def bopOp : Bop → Operator
  | .add => .Add | .sub => .Sub | .mul => .Mult | .fdiv => .FloorDiv | .mod => .Mod | .shr => .RShift
theorem trOpE {op : Operator} {o : Bop} (h : trOp op = some o) : op = bopOp o := by
  cases op <;> first | cases h; rfl | exact nosome h
theorem bin_sound {o : Bop} {x y : D} {Q : D → Rho → Mu → Prop} {X} (h : vcBin o x y fun d => Q d ρ μ) : Op2 G F k RV (binaryOp (bopOp o)) x y ρ μ Q X := by
  cases o with
  | add => cases x with
    | int x => obtain ⟨y, rfl, h⟩ := asIE h; exact b_add_int h
    | str x => obtain ⟨y, rfl, h⟩ := asSE h; exact b_add_str h.1 h.2
    | list x => obtain ⟨y, rfl, h⟩ := asLE h; exact b_add_list h.1 h.2
    | _ => exact h.elim
  | sub => obtain ⟨x, rfl, h⟩ := asIE h; obtain ⟨y, rfl, h⟩ := asIE h; exact b_sub_int h
  | mul => cases x with
    | int x => obtain ⟨y, rfl, h⟩ := asIE h; exact b_mul_int h.1.1 h.1.2 h.2
    | str x => obtain ⟨y, rfl, c, rfl, h1, h⟩ := asIE h; exact b_mul_str h1.1 h1.2 h
    | _ => exact h.elim
  | fdiv => obtain ⟨x, rfl, h⟩ := asIE h; obtain ⟨y, rfl, h⟩ := asIE h; exact b_fdiv_int h.1.1 h.1.2 h.2
  | mod => cases x with
    | int x => obtain ⟨y, rfl, h⟩ := asIE h; exact b_mod_int h.1 h.2
    | str x => obtain ⟨y, rfl, p, q, rfl, ⟨rfl, hx, hy⟩, h2⟩ := asTE h; exact b_mod_str hx hy h2
    | _ => exact h.elim
  | shr => obtain ⟨x, rfl, h⟩ := asIE h; obtain ⟨y, rfl, ⟨rfl, h0⟩, h2⟩ := asIE h; exact b_shr_int h0 h2
theorem aug_sound {o : Bop} {x y : D} {Q : D → Rho → Mu → Prop} {X} (h : vcAug o x y fun d => Q d ρ μ) : Op2 G F k RV (inplaceOp (bopOp o)) x y ρ μ Q X := by
  cases o with
  | add => cases x with
    | int x => obtain ⟨y, rfl, h⟩ := asIE h; exact b_iadd_int h
    | str x => obtain ⟨y, rfl, h⟩ := asSE h; exact b_iadd_str h.1 h.2
    | _ => exact h.elim
  | fdiv => obtain ⟨x, rfl, h⟩ := asIE h; obtain ⟨y, rfl, h⟩ := asIE h; exact b_ifdiv_int h.1.1 h.1.2 h.2
  | _ => exact h.elim
end
section
variable {G : GG} {F : Fm} {k : Nat} {ρ : Rho} {μ : Mu} {W : Wd} {s : Shared} {A : Around}
noncomputable def OpN (G : GG) (F : Fm) (k : Nat) {α β : Type} (R : Wd → α → β → Prop) (t : List Value → Sem α) (ds : List D) (ρ : Rho) (μ : Mu) (Q : β → Rho → Mu → Prop) (X : List Nat → Rho → Mu → Prop) : Prop :=
  ∀ W A s vs, AOk F W k A → Rel G F W ρ μ s → Vs W.π W.φ vs ds → wpAny G.M A (t vs) (PQ G F W R Q) (PX G F W X) s
theorem Vs.one {π : List Addr} {φ : PMap} {vs : List Value} {d : D} (h : Vs π φ vs [d]) : ∃ v, vs = [v] ∧ V π φ v d :=
  h.inv.elim fun v h => h.elim fun us h => ⟨v, h.1.trans (congrArg _ h.2.2.inv), h.2.1⟩
theorem Vs.two {π : List Addr} {φ : PMap} {vs : List Value} {d e : D} (h : Vs π φ vs [d, e]) : ∃ v u, vs = [v, u] ∧ V π φ v d ∧ V π φ u e := by
  rcases h with _ | ⟨p, _ | ⟨q, _ | _⟩⟩; exact ⟨_, _, rfl, p, q⟩
theorem V.tyE {π : List Addr} {φ : PMap} {v : Value} {n : String} (h : V π φ v (.ty n)) : v = .type n := h.inv
noncomputable abbrev bcall (f : Value) : List Value → Sem Value := fun vs => call f vs
theorem bi_len {ds : List D} {Q : D → Rho → Mu → Prop} {X} (h : one ds fun d => lenD d μ fun n => Q (.int n) ρ μ) : OpN G F k RV (bcall (.builtin "len")) ds ρ μ Q X := fun W A s vs a r hvs => by
  obtain ⟨d, rfl, h⟩ := oneE h
  obtain ⟨v, rfl, hv⟩ := hvs.one
  cases d with
  | list l =>
    have hz := hv.listZ
    obtain ⟨b, us, n, rfl, hl, rl⟩ := hv.listE
    have e := vsize rl
    exact PyProof.Rows.len_list (r.isL hl) (by unfold big at hz; omega) (.val (r.toks _) (by rw [e]; exact .int _ _) h)
  | str l =>
    have hz := hv.strZ
    obtain ⟨x, t, rfl, rfl⟩ := hv.strE
    exact PyProof.Rows.len_str (by rw [len_cps]; unfold big at hz; omega) (.val (r.toks _) (by rw [len_cps]; exact .int _ _) h)
  | bytes l =>
    obtain ⟨x, t, rfl, rfl, hz⟩ := hv.bytesE
    exact PySem.W.len_bytes (by unfold big at hz; exact ar44 hz) (.val (r.toks _) (by rw [← Array.length_toList]; exact .int _ _) h)
  | «mut» i =>
    obtain ⟨l, hl, h⟩ := getMuE h
    obtain ⟨b, us, n, rfl, _, hb, hz, rb⟩ := r.mutE hv hl
    have e := vsize rb
    exact PyProof.Rows.len_list ⟨_, hb, rfl, n, rfl⟩ (by unfold big at hz; omega) (.val (r.toks _) (by rw [e]; exact .int _ _) h)
  | _ => exact h.elim
theorem bi_abs {x : Int} {Q : D → Rho → Mu → Prop} {X} (h : Q (.int x.natAbs) ρ μ) : OpN G F k RV (bcall (.builtin "abs")) [.int x] ρ μ Q X := fun W A s vs a r hvs => by
  obtain ⟨v, rfl, hv⟩ := hvs.one
  obtain ⟨t, rfl⟩ := hv.intE
  refine PyProof.Rows.call_abs_int fun u tk => .val (r.toks _) (.int _ _) ?_
  rw [show (if x < 0 then -x else x) = (x.natAbs : Int) by split <;> (first | exact ar62 ‹_› | exact ar63 ‹_›)]; exact h
theorem bi_min2 {x y : Int} {Q : D → Rho → Mu → Prop} {X} (h : Q (.int (min x y)) ρ μ) : OpN G F k RV (bcall (.builtin "min")) [.int x, .int y] ρ μ Q X := fun W A s vs a r hvs => by
  obtain ⟨v, u, rfl, hv, hu⟩ := hvs.two
  obtain ⟨t, rfl⟩ := hv.intE
  obtain ⟨t', rfl⟩ := hu.intE
  refine min_two_ints a.handled fun h' tk kp => ?_
  by_cases e : y < x
  · rw [if_pos e]; exact .val (r.keeps kp) (.int _ _) (by rw [show min x y = y by exact ar64 e] at h; exact h)
  · rw [if_neg e]; exact .val (r.keeps kp) (.int _ _) (by rw [show min x y = x by exact ar65 e] at h; exact h)
theorem intsAre {π : List Addr} {φ : PMap} : ∀ {vs : List Value} {ns : List Int}, Vs π φ vs (intsD ns) → ∃ xs : List (Int × Tok), vs = xs.map (fun p => .int p.1 p.2) ∧ xs.map (·.1) = ns
  | _, [], h => by rcases h with _ | _; exact ⟨[], rfl, rfl⟩
  | _, n :: ns, h => by
    rcases h with _ | ⟨p, r⟩
    obtain ⟨t, rfl⟩ := p.intE
    obtain ⟨xs, rfl, rfl⟩ := intsAre r
    exact ⟨(n, t) :: xs, rfl, rfl⟩
theorem preSum_drop (xs : List (Int × Tok)) : ∀ (ys : List (Int × Tok)) (i : Nat), xs.drop i = ys → preSum (numAt xs.toArray) i + (ys.map (·.1)).sum = preSum (numAt xs.toArray) xs.length
  | [], i, h => by
    have : xs.length ≤ i := List.drop_eq_nil_iff.mp h
    have hz : ∀ d, preSum (numAt xs.toArray) (xs.length + d) = preSum (numAt xs.toArray) xs.length := fun d => by
      induction d with
      | zero => rfl
      | succ d ih =>
        show preSum _ (xs.length + d) + numAt _ _ = _
        rw [ih]
        have e0 : numAt xs.toArray (xs.length.add d) = 0 := by unfold numAt; simp
        rw [e0, Int.add_zero]
    rw [show i = xs.length + (i - xs.length) by exact ar66 this, hz]; simp
  | y :: ys, i, h => by
    have hi : xs[i]? = some y := by
      have := congrArg (fun l : List (Int × Tok) => l[0]?) h
      simpa using this
    have h2 := preSum_drop xs ys (i + 1) (by rw [← List.drop_drop, h]; rfl)
    rw [← h2]
    show _ = preSum _ i + numAt _ _ + _
    have : numAt xs.toArray i = y.1 := by unfold numAt; simp [hi]
    rw [this, List.map_cons, List.sum_cons]; simp +arith
theorem bi_sum {ns : List Int} {Q : D → Rho → Mu → Prop} {X} (h : Q (.int ns.sum) ρ μ) : OpN G F k RV (bcall (.builtin "sum")) [.list (intsD ns)] ρ μ Q X := fun W A s vs a r hvs => by
  obtain ⟨v, rfl, hv⟩ := hvs.one
  obtain ⟨b, us, n, rfl, hl, rl⟩ := hv.listE
  obtain ⟨xs, e, rfl⟩ := intsAre rl
  have e2 : us = intItems xs.toArray := by
    apply Array.toList_inj.mp
    rw [e]; simp [intItems]
  subst e2
  refine sum_intListG a.handled (r.isL hl) fun h' tk t' kp => .val (r.keeps kp) (.int _ _) ?_
  have := preSum_drop xs xs 0 rfl
  rw [show xs.toArray.size = xs.length by simp, ← this]
  show Q (.int (0 + _)) ρ μ
  rw [Int.zero_add]; exact h
theorem bi_ord {c : Nat} {Q : D → Rho → Mu → Prop} {X} (h : Q (.int c) ρ μ) : OpN G F k RV (bcall (.builtin "ord")) [.str [c]] ρ μ Q X := fun W A s vs a r hvs => by
  obtain ⟨v, rfl, hv⟩ := hvs.one
  obtain ⟨x, t, rfl, hx⟩ := hv.strE
  have e : x = ⟨#[c]⟩ := congrArg Str.mk (Array.toList_inj.mp hx)
  subst e
  exact PySem.P.ord_of_char (.val (r.toks _) (.int _ _) h)
theorem bi_str {n : Int} {Q : D → Rho → Mu → Prop} {X} (h0 : 0 ≤ n ∧ n < 1000000000) (h : Q (.str (textN n)) ρ μ) : OpN G F k RV (bcall (.type "str")) [.int n] ρ μ Q X := fun W A s vs a r hvs => by
  obtain ⟨v, rfl, hv⟩ := hvs.one
  obtain ⟨t, rfl⟩ := hv.intE
  exact PySem.P.str_of_int (shown (N := 2 ^ 1920) (by omega) (by omega) (Int.le_refl _)) (.val (r.toks _) (.strI (l := textN n) rfl (by have := tl h0; unfold big; exact ar67 this)) h)
theorem bi_isb {l : List Nat} {Q : D → Rho → Mu → Prop} {X} (h : Q (.bool false) ρ μ) : OpN G F k RV (bcall (.builtin "isinstance")) [.str l, .ty "bytes"] ρ μ Q X := fun W A s vs a r hvs => by
  obtain ⟨v, u, rfl, hv, hu⟩ := hvs.two
  obtain ⟨x, t, rfl, hx⟩ := hv.strE
  rw [hu.tyE]
  exact IsiPair.str_bytes (.val (r.toks _) (.bool _) h)
theorem bi_type {l : List Nat} {Q : D → Rho → Mu → Prop} {X} (h : Q (.ty "str") ρ μ) : OpN G F k RV (bcall (.type "type")) [.str l] ρ μ Q X := fun W A s vs a r hvs => by
  obtain ⟨v, rfl, hv⟩ := hvs.one
  obtain ⟨x, t, rfl, hx⟩ := hv.strE
  exact call_type_of (typeIs_str _ _ _) (by decide) (.val r (.ty _) h)
end
section
open PySem.Builtin PySem.Builtin.Str
variable {G : GG} {F : Fm} {k : Nat} {ρ : Rho} {μ : Mu} {W : Wd} {s : Shared} {A : Around}
theorem subAt_iff (x y : Str) (i : Nat) : subAt x y i = true ↔ (x.cps.toList.drop i).take y.cps.toList.length = y.cps.toList := by
  unfold subAt
  rw [beq_iff_eq, ← Array.toList_inj, Array.toList_extract, List.extract_eq_take_drop, len_cps, Nat.add_sub_cancel_left]
theorem starts_eq (x y : Str) : Txt.startswith x y = y.cps.toList.isPrefixOf x.cps.toList := by
  rw [Bool.eq_iff_iff, List.isPrefixOf_iff_prefix, List.prefix_iff_eq_take]
  unfold Txt.startswith
  rw [Bool.and_eq_true, decide_eq_true_eq, subAt_iff, List.drop_zero, len_cps, len_cps, Nat.zero_add]
  constructor
  · exact fun h => h.2.symm
  · intro h
    have := congrArg List.length h
    rw [List.length_take] at this
    exact ⟨by exact ar68 this, h.symm⟩
theorem ends_eq (x y : Str) : Txt.endswith x y = y.cps.toList.isSuffixOf x.cps.toList := by
  rw [Bool.eq_iff_iff, List.isSuffixOf_iff_suffix, List.suffix_iff_eq_drop]
  unfold Txt.endswith
  rw [Bool.and_eq_true, decide_eq_true_eq, subAt_iff, len_cps, len_cps, Nat.zero_add]
  constructor
  · rintro ⟨h1, h2⟩
    rw [List.take_of_length_le] at h2
    · exact h2.symm
    · rw [List.length_drop]; exact ar69
  · intro h
    have := congrArg List.length h
    rw [List.length_drop] at this
    refine ⟨by exact ar70 this, ?_⟩
    rw [List.take_of_length_le]
    · exact h.symm
    · rw [List.length_drop]; exact Nat.le_of_eq (Eq.symm ‹_›)
theorem rfindN_spec (c : Nat) : ∀ l : List Nat, (rfindN c l = none ∧ ∀ i : Nat, l[i]? ≠ some c) ∨ ∃ i, rfindN c l = some i ∧ l[i]? = some c ∧ ∀ k, i < k → l[k]? ≠ some c
  | [] => .inl ⟨rfl, fun i => by simp⟩
  | a :: r => by
    rcases rfindN_spec c r with ⟨h1, h2⟩ | ⟨i, h1, h2, h3⟩
    · by_cases e : a = c
      · refine .inr ⟨0, by simp [rfindN, h1, e], by simp [e], fun k hk => ?_⟩
        cases k with
        | zero => exact (Nat.lt_irrefl _ ‹_›).elim
        | succ k => simpa using h2 k
      · refine .inl ⟨by simp [rfindN, h1, e], fun i => ?_⟩
        cases i with
        | zero => simpa using e
        | succ i => simpa using h2 i
    · refine .inr ⟨i + 1, by simp [rfindN, h1], by simpa using h2, fun k hk => ?_⟩
      cases k with
      | zero => lia
      | succ k => simpa using h3 k (by exact Nat.le_of_lt_succ ‹_›)
theorem at_one (x : Str) (c i : Nat) : StrLaws.At x ⟨#[c]⟩ x.length i ↔ x.cps.toList[i]? = some c := by
  unfold StrLaws.At
  rw [subAt_iff]
  show i + 1 ≤ _ ∧ List.take 1 _ = [c] ↔ _
  rw [len_cps]
  constructor
  · rintro ⟨h1, h2⟩
    rw [List.drop_eq_getElem_cons (by (first | assumption | exact Nat.le_refl _ | exact Nat.zero_le _ | exact Nat.le_of_lt ‹_› | exact Nat.succ_le_of_lt ‹_› | exact Nat.le_of_lt_succ ‹_› | exact Nat.lt_succ_of_le ‹_› | exact Nat.lt_succ_self _ | exact Nat.succ_pos _ | exact Nat.le_add_right _ _ | exact Nat.le_add_left _ _ | exact Nat.sub_le _ _ | exact Nat.le_of_eq ‹_› | exact Nat.le_of_eq (Eq.symm ‹_›) | exact Nat.le_trans ‹_› ‹_› | exact Nat.lt_of_lt_of_le ‹_› ‹_› | exact Nat.lt_of_le_of_lt ‹_› ‹_› | exact Nat.lt_trans ‹_› ‹_› | exact Nat.ne_of_lt ‹_› | exact Nat.ne_of_gt ‹_› | exact Nat.le_of_not_lt ‹_› | exact Nat.lt_of_not_le ‹_› | exact Nat.not_lt.mpr ‹_› | exact Nat.not_le.mpr ‹_› | exact Nat.sub_add_cancel ‹_› | exact Nat.add_comm _ _ | exact Nat.add_assoc _ _ _ | exact Nat.add_right_comm _ _ _ | exact Int.natCast_nonneg _ | exact Int.ofNat_le.mpr ‹_› | exact Int.ofNat_lt.mpr ‹_› | exact (Nat.lt_irrefl _ ‹_›).elim) : i < x.cps.toList.length)] at h2
    simp at h2
    rw [List.getElem?_eq_getElem (by (first | assumption | exact Nat.le_refl _ | exact Nat.zero_le _ | exact Nat.le_of_lt ‹_› | exact Nat.succ_le_of_lt ‹_› | exact Nat.le_of_lt_succ ‹_› | exact Nat.lt_succ_of_le ‹_› | exact Nat.lt_succ_self _ | exact Nat.succ_pos _ | exact Nat.le_add_right _ _ | exact Nat.le_add_left _ _ | exact Nat.sub_le _ _ | exact Nat.le_of_eq ‹_› | exact Nat.le_of_eq (Eq.symm ‹_›) | exact Nat.le_trans ‹_› ‹_› | exact Nat.lt_of_lt_of_le ‹_› ‹_› | exact Nat.lt_of_le_of_lt ‹_› ‹_› | exact Nat.lt_trans ‹_› ‹_› | exact Nat.ne_of_lt ‹_› | exact Nat.ne_of_gt ‹_› | exact Nat.le_of_not_lt ‹_› | exact Nat.lt_of_not_le ‹_› | exact Nat.not_lt.mpr ‹_› | exact Nat.not_le.mpr ‹_› | exact Nat.sub_add_cancel ‹_› | exact Nat.add_comm _ _ | exact Nat.add_assoc _ _ _ | exact Nat.add_right_comm _ _ _ | exact Int.natCast_nonneg _ | exact Int.ofNat_le.mpr ‹_› | exact Int.ofNat_lt.mpr ‹_› | exact (Nat.lt_irrefl _ ‹_›).elim))]
    simpa using h2
  · intro h
    refine (List.getElem?_eq_some_iff.mp h).elim fun h1 h2 => ?_
    refine ⟨by (first | assumption | exact Nat.le_refl _ | exact Nat.zero_le _ | exact Nat.le_of_lt ‹_› | exact Nat.succ_le_of_lt ‹_› | exact Nat.le_of_lt_succ ‹_› | exact Nat.lt_succ_of_le ‹_› | exact Nat.lt_succ_self _ | exact Nat.succ_pos _ | exact Nat.le_add_right _ _ | exact Nat.le_add_left _ _ | exact Nat.sub_le _ _ | exact Nat.le_of_eq ‹_› | exact Nat.le_of_eq (Eq.symm ‹_›) | exact Nat.le_trans ‹_› ‹_› | exact Nat.lt_of_lt_of_le ‹_› ‹_› | exact Nat.lt_of_le_of_lt ‹_› ‹_› | exact Nat.lt_trans ‹_› ‹_› | exact Nat.ne_of_lt ‹_› | exact Nat.ne_of_gt ‹_› | exact Nat.le_of_not_lt ‹_› | exact Nat.lt_of_not_le ‹_› | exact Nat.not_lt.mpr ‹_› | exact Nat.not_le.mpr ‹_› | exact Nat.sub_add_cancel ‹_› | exact Nat.add_comm _ _ | exact Nat.add_assoc _ _ _ | exact Nat.add_right_comm _ _ _ | exact Int.natCast_nonneg _ | exact Int.ofNat_le.mpr ‹_› | exact Int.ofNat_lt.mpr ‹_› | exact (Nat.lt_irrefl _ ‹_›).elim), ?_⟩
    rw [List.drop_eq_getElem_cons h1, h2]
    simp
theorem rfind_eq (x : Str) (c : Nat) : Txt.rfind x ⟨#[c]⟩ = posOf (rfindN c x.cps.toList) := by
  unfold Txt.rfind posOf
  rcases StrLaws.last_spec x ⟨#[c]⟩ with ⟨h1, h2⟩ | ⟨i, h1, h2, h3⟩ <;> rcases rfindN_spec c x.cps.toList with ⟨g1, g2⟩ | ⟨j, g1, g2, g3⟩ <;> rw [h1, g1]
  · exact absurd ((at_one x c j).mpr g2) (h2 j)
  · exact absurd ((at_one x c i).mp h2) (g2 i)
  · have : i = j := by
      rcases Nat.lt_trichotomy i j with e | e | e
      · exact absurd ((at_one x c j).mpr g2) (h3 j e)
      · exact e
      · exact absurd ((at_one x c i).mp h2) (g3 i e)
    rw [this]
theorem rstrip_eq (x : Str) (c : Nat) : (Txt.rstripChars x ⟨#[c]⟩).cps.toList = rstripN c x.cps.toList := by
  unfold Txt.rstripChars
  rw [PyProof.Rows.stripBy_eq, StrLaws.strSub_toList]
  unfold PySem.stripLo PySem.stripHi rstripN
  simp only [Bool.false_eq_true, if_false, if_true, List.drop_zero, Nat.sub_zero]
  have e : (Array.contains (#[c] : Array Nat)) = fun a => a == c := by
    funext a; simp [Array.contains]
  rw [e, len_cps]
  generalize x.cps.toList = l
  have h := List.takeWhile_append_dropWhile (p := fun a => a == c) (l := l.reverse)
  have h2 := congrArg List.reverse h
  rw [List.reverse_reverse, List.reverse_append] at h2
  have h3 := congrArg List.length h
  rw [List.length_append, List.length_reverse] at h3
  rw [show l.length - (List.takeWhile (fun a => a == c) l.reverse).length = (List.dropWhile (fun a => a == c) l.reverse).length by exact ar71 h3]
  have key : ∀ a b l' : List Nat, l' = a.reverse ++ b → List.take a.length l' = a.reverse := fun a b l' e => by
    subst e
    rw [List.take_append_of_le_length (by simp), List.take_of_length_le (by simp)]
  exact key _ _ _ h2.symm
theorem splitN_free {c : Nat} : ∀ {p : List Nat}, c ∉ p → splitN c p = [p]
  | [], _ => rfl
  | a :: p, h => by
    have h1 : a ≠ c := fun e => h (e ▸ List.mem_cons_self ..)
    rw [splitN, if_neg h1, splitN_free fun e => h (List.mem_cons_of_mem _ e)]
theorem splitN_cons {c : Nat} (r : List Nat) : ∀ {p : List Nat}, c ∉ p → splitN c (p ++ c :: r) = p :: splitN c r
  | [], _ => by rw [List.nil_append, splitN, if_pos rfl]
  | a :: p, h => by
    have h1 : a ≠ c := fun e => h (e ▸ List.mem_cons_self ..)
    rw [List.cons_append, splitN, if_neg h1, splitN_cons r fun e => h (List.mem_cons_of_mem _ e)]
theorem splitN_join {c : Nat} : ∀ {ps : List (List Nat)}, ps ≠ [] → (∀ p ∈ ps, c ∉ p) → splitN c (joinN [c] ps) = ps
  | [], h, _ => absurd rfl h
  | [p], _, h => splitN_free (h p (List.mem_cons_self ..))
  | p :: q :: r, _, h => by
    show splitN c (p ++ [c] ++ joinN [c] (q :: r)) = _
    rw [List.append_assoc, List.singleton_append, splitN_cons _ (h p (List.mem_cons_self ..)), splitN_join (by simp) fun p hp => h p (List.mem_cons_of_mem _ hp)]
theorem join_cps (sep : Str) : ∀ xs : List Str, (Str.join sep xs).cps.toList = joinN sep.cps.toList (xs.map fun x => x.cps.toList)
  | [] => rfl
  | [x] => rfl
  | x :: y :: r => by
    show (x ++ sep ++ Str.join sep (y :: r)).cps.toList = _
    rw [cps_append, cps_append, join_cps sep (y :: r)]; rfl
theorem split_eq (x : Str) (c : Nat) : (Txt.split x ⟨#[c]⟩).map (fun x => x.cps.toList) = splitN c x.cps.toList := by
  have h1 := StrLaws.join_split x ⟨#[c]⟩
  have h2 := join_cps ⟨#[c]⟩ (Txt.split x ⟨#[c]⟩)
  rw [h1] at h2
  rw [h2]
  refine (splitN_join ?_ fun p hp => ?_).symm
  · intro e
    have := split_pos x ⟨#[c]⟩
    rw [List.map_eq_nil_iff.mp e] at this
    exact absurd this (by decide)
  · obtain ⟨q, hq, rfl⟩ := List.mem_map.mp hp
    exact StrLaws.split_free x c q hq
end
section
open PySem.Builtin PySem.Builtin.Str
variable {G : GG} {F : Fm} {k : Nat} {ρ : Rho} {μ : Mu} {W : Wd} {s : Shared} {A : Around}
theorem Rel.mutSet (r : Rel G F W ρ μ s) {i : Nat} {a : Addr} {ds : List D} {h' : Heap} {t : Nat} {vs : Array Value} {n : Nat} {l₀ : List D} (ha : W.π[i]? = some a) (hl : μ[i]? = some (some l₀)) (same : ∀ b o, b ≠ a → s.heap.get? b = some o → h'.get? b = some o)
    (new : h'.get? a = some (listO vs n)) (hz : vs.size ≤ big) (hv : Vs W.π W.φ vs.toList ds) : Rel G F W ρ (μ.set i (some ds)) { s with heap := h', toks := t } := by
  have hmem : a ∈ W.π := List.mem_of_getElem? ha
  obtain ⟨a1, a3⟩ := r.wr.apart a hmem
  have a2 := r.wr.live i a _ ha hl
  have nt := r.wr.notTab a3
  have w : WRel G W (μ.set i (some ds)) { s with heap := h', toks := t } := by
    refine ⟨r.wr.gok, r.wr.ground, fun b o e => same b o (fun q => by rw [q, a1] at e; exact nosome e) (r.wr.ψ b o e), fun b o e => same b o (fun q => by rw [q, a2] at e; exact nosome e) (r.wr.φ b o e), fun b o e hb => (r.wr.fs b o e hb).imp fun sl h => same b _ (fun q => by rw [q, a3] at e; exact nosome e) h, by rw [List.length_set]; exact r.wr.len, fun j b es e1 e2 => ?_, r.wr.nodup, r.wr.apart, fun j b es e1 e2 => ?_, fun j b e1 e2 => ?_, r.wr.tab.move (fun o e => same _ o (Ne.symm nt) e) r.wr.tab.ψ r.wr.tab.φ rfl (.refl _), by obtain ⟨h, t', e⟩ := r.wr.rest; exact ⟨h', t, by rw [e]⟩⟩
    · by_cases q : i = j
      · subst q
        rw [ha] at e1; cases e1
        have hlt : i < μ.length := by rw [← r.wr.len]; exact (List.getElem?_eq_some_iff.mp ha).1
        rw [List.getElem?_set_self hlt] at e2; cases e2
        exact ⟨vs, n, new, hz, hv⟩
      · rw [List.getElem?_set_ne q] at e2
        obtain ⟨us, m, h1, h2⟩ := r.wr.muts j b es e1 e2
        refine ⟨us, m, same b _ (fun q2 => ?_) h1, h2⟩
        subst q2
        obtain ⟨l1, g1⟩ := List.getElem?_eq_some_iff.mp ha
        obtain ⟨l2, g2⟩ := List.getElem?_eq_some_iff.mp e1
        exact q ((List.getElem_inj r.wr.nodup).mp (g1.trans g2.symm))
    · by_cases q : i = j
      · subst q; rw [ha] at e1; cases e1; exact a2
      · rw [List.getElem?_set_ne q] at e2; exact r.wr.live j b es e1 e2
    · by_cases q : i = j
      · subst q
        have hlt : i < μ.length := (List.getElem?_eq_some_iff.mp hl).1
        rw [List.getElem?_set_self hlt] at e2; cases e2
      · rw [List.getElem?_set_ne q] at e2; exact r.wr.done j b e1 e2
  exact r.ofW w (.refl W) (fun b o hb e => same b o (fun q => by
    subst q
    rcases hb with hb | hb
    · exact (r.priv b hb).2.2.2 hmem
    · exact hb a1) e) fun b hb => ⟨(r.priv b hb).2.1, (r.priv b hb).2.2.2⟩
theorem WRel.listAt (w : WRel G W μ s) {i : Nat} {a : Addr} (h : W.π[i]? = some a) : ∃ us n, s.heap.get? a = some (listO us n) := by
  have hlt := (List.getElem?_eq_some_iff.mp h).1
  rw [w.len] at hlt
  cases e : μ[i] with
  | some ds => obtain ⟨us, n, h1, _⟩ := w.muts i _ ds h (by rw [List.getElem?_eq_getElem hlt, e]); exact ⟨us, n, h1⟩
  | none => obtain ⟨us, n, h1⟩ := w.done i _ h (by rw [List.getElem?_eq_getElem hlt, e]); exact ⟨us, n, w.φ _ _ h1⟩
noncomputable def meT : Me → String
  | .append => "list" | .pop => "list" | .decode => "bytes" | _ => "str"
noncomputable def meId : Me → String
  | .append => "list.append" | .pop => "list.pop" | .startswith => "str.startswith" | .endswith => "str.endswith" | .rfind => "str.rfind" | .rstrip => "str.rstrip" | .split => "str.split" | .join => "str.join"
  | .decode => "bytes.decode" | _ => "str.join"
noncomputable def meName : Me → Str
  | .append => "append" | .pop => "pop" | .startswith => "startswith" | .endswith => "endswith" | .rfind => "rfind" | .rstrip => "rstrip" | .split => "split" | .join => "join" | .decode => "decode" | .read => "read" | .bad => ""
theorem lookup_mem {α β : Type} [BEq α] [LawfulBEq α] {x : α} {y : β} : ∀ {l : List (α × β)}, l.lookup x = some y → (x, y) ∈ l
  | (a, b) :: r, h => by
    rw [List.lookup_cons] at h
    by_cases e : (x == a) = true
    · rw [e] at h
      rw [eq_of_beq e]; cases h; exact List.mem_cons_self ..
    · rw [Bool.eq_false_iff.mpr e] at h
      exact List.mem_cons_of_mem _ (lookup_mem h)
theorem meNames_ok : ∀ p ∈ meNames, p.1 = meName p.2 ∧ p.2 ≠ .bad := by
  intro p hp
  simp only [meNames, List.mem_cons, List.not_mem_nil, or_false] at hp
  rcases hp with rfl | rfl | rfl | rfl | rfl | rfl | rfl | rfl | rfl | rfl <;> exact ⟨rfl, by intro h; cases h⟩
theorem me_slot {m : Me} (h1 : m ≠ .read) (h2 : m ≠ .bad) : PlainAttrs (meT m) ∧ Slot (meT m) (meName m) (meId m) ∧ typeOf (.builtin (meId m)) = pure (.type "method_descriptor") := by
  cases m with
  | append => exact ⟨F.plainAttrs_list, F.slot_list_append, F.type_list_append⟩
  | pop => exact ⟨F.plainAttrs_list, F.slot_list_pop, F.type_list_pop⟩
  | startswith => exact ⟨F.plainAttrs_str, F.slot_str_startswith, F.type_str_startswith⟩
  | endswith => exact ⟨F.plainAttrs_str, F.slot_str_endswith, F.type_str_endswith⟩
  | rfind => exact ⟨F.plainAttrs_str, F.slot_str_rfind, F.type_str_rfind⟩
  | rstrip => exact ⟨F.plainAttrs_str, F.slot_str_rstrip, F.type_str_rstrip⟩
  | split => exact ⟨F.plainAttrs_str, F.slot_str_split, F.type_str_split⟩
  | join => exact ⟨F.plainAttrs_str, F.slot_str_join, F.type_str_join⟩
  | decode => exact ⟨FB.plainAttrs_bytes, FB.slot_bytes_decode, FB.type_bytes_decode⟩
  | read => exact absurd rfl h1
  | bad => exact absurd rfl h2
theorem me_type {m : Me} {x : D} {v : Value} (h1 : m ≠ .read) (ho : meOk k m x) (r : Rel G F W ρ μ s) (hv : V W.π W.φ v x) : s.TypeIs v (meT m) ∧ ∀ a, v = .ref a → ∃ ob, s.heap.get? a = some ob ∧ ob.dict = none := by
  have hs : ∀ l, x = .str l → s.TypeIs v "str" ∧ ∀ a, v = .ref a → ∃ ob, s.heap.get? a = some ob ∧ ob.dict = none := fun l e => by
    subst e
    obtain ⟨y, t, rfl, _⟩ := hv.strE
    exact ⟨typeIs_str _ _ _, fun a e => nomatch e⟩
  have hm : ∀ i, x = .mut i → s.TypeIs v "list" ∧ ∀ a, v = .ref a → ∃ ob, s.heap.get? a = some ob ∧ ob.dict = none := fun i e => by
    subst e
    cases hv with
    | «mut» h =>
      have hlt := (List.getElem?_eq_some_iff.mp h).1
      rw [r.wr.len] at hlt
      refine (r.wr.listAt h).elim fun us zz6 => zz6.elim fun n h1 => ?_
      exact ⟨⟨_, h1, rfl⟩, fun a e => by cases e; exact ⟨_, h1, rfl⟩⟩
  cases m with
  | append => obtain ⟨i, h⟩ := ho; exact hm i h
  | pop => obtain ⟨i, h⟩ := ho; exact hm i h
  | decode => obtain ⟨b, rfl⟩ := ho; obtain ⟨y, t, rfl, _⟩ := hv.bytesE; exact ⟨PySem.W.typeIs_bytes _ _ _, fun a e => nomatch e⟩
  | read => exact absurd rfl h1
  | bad => exact ho.elim
  | _ => obtain ⟨i, h⟩ := ho; exact hs i h
end
section
open PySem.Builtin PySem.Builtin.Str
variable {G : GG} {F : Fm} {k : Nat} {ρ : Rho} {μ : Mu} {W : Wd} {s : Shared} {A : Around}
noncomputable def OpMe (G : GG) (F : Fm) (k : Nat) (id : String) (x : D) (ds : List D) (ρ : Rho) (μ : Mu) (Q : D → Rho → Mu → Prop) (X : List Nat → Rho → Mu → Prop) : Prop :=
  ∀ W A s v vs, AOk F W k A → Rel G F W ρ μ s → V W.π W.φ v x → Vs W.π W.φ vs ds → wpAny G.M A (call (.builtin id) (v :: vs)) (PQ G F W RV Q) (PX G F W X) s
theorem PQ.here {Q : D → Rho → Mu → Prop} {v : Value} {d : D} {ρ' : Rho} {μ' : Mu} (R : Rel G F W ρ' μ' s) (hv : V W.π W.φ v d) (h : Q d ρ' μ') : PQ G F W RV Q v s := ⟨W, d, ρ', μ', .refl W, R, hv, h⟩
theorem sizeLine_ge {n : Nat} (h : n ≤ 1000000) : n ≤ sizeLine := by rw [sizeLine_eq]; exact ar72 h
theorem upd_same {h : Heap} {a : Addr} {f : Obj → Obj} : ∀ b o, b ≠ a → h.get? b = some o → (h.update a f).get? b = some o := fun b o e p => (Heap.get?_update_other _ _ (Ne.symm e)).trans p
theorem m_append {i : Nat} {l : List D} {d : D} {Q : D → Rho → Mu → Prop} {X} (hl : μ[i]? = some (some l)) (hz : l.length < 1000000) (h : Q .none ρ (μ.set i (some (l ++ [d])))) : OpMe G F k "list.append" (.mut i) [d] ρ μ Q X := fun W A s v vs a r hv hvs => by
  obtain ⟨b, us, n, rfl, hb, ho, hz2, rb⟩ := r.mutE hv hl
  obtain ⟨u, rfl, hu⟩ := hvs.one
  have e := vsize rb
  refine call_meets PySem.F.slot_list_append ⟨_, ho, rfl⟩ PySem.F.entry_list_append (PySem.F.args_list_append_2 _ _) (PySem.list_append b us n u (sizeLine_ge (by exact ar73 hz e))) ⟨ho, ?_⟩
  refine .here (r.mutSet hb hl upd_same (Heap.get?_update_self _ ho rfl) ?_ ?_) .none h
  · show (us.push u).size ≤ _
    rw [Array.size_push, e]; unfold big; exact ar74 hz
  · show Vs _ _ (us.push u).toList _
    rw [Array.toList_push]; exact rb.append (.cons hu .nil)
theorem m_pop {i : Nat} {l : List D} {Q : D → Rho → Mu → Prop} {X} (hl : μ[i]? = some (some l)) (hne : l ≠ []) (h : ∀ d, l.getLast? = some d → Q d ρ (μ.set i (some l.dropLast))) : OpMe G F k "list.pop" (.mut i) [] ρ μ Q X := fun W A s v vs a r hv hvs => by
  obtain ⟨b, us, n, rfl, hb, ho, hz2, rb⟩ := r.mutE hv hl
  cases hvs
  have e := vsize rb
  have hpos : 0 < l.length := List.length_pos_iff.mpr hne
  refine (vsAt rb (show us.size - 1 < us.size by exact ar75 e hpos)).elim fun d zz17 => zz17.elim fun hd vd => ?_
  have hlast : us[us.size - 1]? = some us[us.size - 1] := getElem?_pos _ _ (by exact ar75 e hpos)
  refine call_meets PySem.F.slot_list_pop ⟨_, ho, rfl⟩ PySem.F.entry_list_pop (PySem.F.args_list_pop_1 _) (PySem.MeetsSeq.list_pop_last b us n _ hlast (by rw [sizeLine_big]; exact hz2)) ⟨ho, ?_⟩
  have e2 : (us.eraseIdxIfInBounds (us.size - 1)).toList = us.toList.take (us.size - 1) := by
    rw [Array.toList_eraseIdxIfInBounds, List.eraseIdx_eq_take_drop_succ, List.drop_eq_nil_of_le (by simp; exact ar76), List.append_nil]
  refine .here (r.mutSet hb hl upd_same (Heap.get?_update_self _ ho rfl) ?_ ?_) vd (h d ?_)
  · show (us.eraseIdxIfInBounds _).size ≤ _
    rw [← Array.length_toList, e2, List.length_take]; simp; exact ar77 hz2
  · show Vs _ _ (us.eraseIdxIfInBounds _).toList _
    rw [e2, List.dropLast_eq_take, ← e]
    exact rb.take _
  · rw [List.getLast?_eq_getElem?, ← e]; exact hd
theorem m_starts {x p : List Nat} {Q : D → Rho → Mu → Prop} {X} (h : Q (.bool (p.isPrefixOf x)) ρ μ) : OpMe G F k "str.startswith" (.str x) [.str p] ρ μ Q X := fun W A s v vs a r hv hvs => by
  obtain ⟨x, t, rfl, rfl⟩ := hv.strE
  obtain ⟨u, rfl, hu⟩ := hvs.one
  obtain ⟨y, t', rfl, rfl⟩ := hu.strE
  exact PySem.SC.startswith (.val r (.bool _) (by rw [starts_eq]; exact h))
theorem m_ends {x p : List Nat} {Q : D → Rho → Mu → Prop} {X} (h : Q (.bool (p.isSuffixOf x)) ρ μ) : OpMe G F k "str.endswith" (.str x) [.str p] ρ μ Q X := fun W A s v vs a r hv hvs => by
  obtain ⟨x, t, rfl, rfl⟩ := hv.strE
  obtain ⟨u, rfl, hu⟩ := hvs.one
  obtain ⟨y, t', rfl, rfl⟩ := hu.strE
  exact PySem.SC.endswith (.val r (.bool _) (by rw [ends_eq]; exact h))
theorem oneStr {y : Str} {c : Nat} (h : y.cps.toList = [c]) : y = ⟨#[c]⟩ := congrArg Str.mk (Array.toList_inj.mp h)
theorem m_rfind {x : List Nat} {c : Nat} {Q : D → Rho → Mu → Prop} {X} (h : Q (.int (posOf (rfindN c x))) ρ μ) : OpMe G F k "str.rfind" (.str x) [.str [c]] ρ μ Q X := fun W A s v vs a r hv hvs => by
  obtain ⟨x, t, rfl, rfl⟩ := hv.strE
  obtain ⟨u, rfl, hu⟩ := hvs.one
  obtain ⟨y, t', rfl, hy⟩ := hu.strE
  cases oneStr hy
  exact PySem.SC.rfind (.val (r.toks _) (by rw [rfind_eq]; exact .int _ _) h)
theorem rstripN_le (c : Nat) (l : List Nat) : (rstripN c l).length ≤ l.length := by
  unfold rstripN
  rw [List.length_reverse]
  have := (List.dropWhile_suffix (fun a => a == c) (l := l.reverse)).length_le
  rwa [List.length_reverse] at this
theorem m_rstrip {x : List Nat} {c : Nat} {Q : D → Rho → Mu → Prop} {X} (h : Q (.str (rstripN c x)) ρ μ) : OpMe G F k "str.rstrip" (.str x) [.str [c]] ρ μ Q X := fun W A s v vs a r hv hvs => by
  have hz := hv.strZ
  obtain ⟨x, t, rfl, rfl⟩ := hv.strE
  obtain ⟨u, rfl, hu⟩ := hvs.one
  obtain ⟨y, t', rfl, hy⟩ := hu.strE
  cases oneStr hy
  refine PySem.SC.rstripChars (fun t' k => .val (r.toks _) (.strI (rstrip_eq x c) (Nat.le_trans (rstripN_le _ _) hz)) h) (by rw [len_cps, sizeLine_big]; exact hz)
theorem vsStrs {π : List Addr} {φ : PMap} : ∀ (l : List (Str × Tok)) (xs : List (List Nat)), l.map (fun p => p.1.cps.toList) = xs → (∀ x ∈ xs, x.length ≤ big) → Vs π φ (strValues l) (xs.map .str)
  | [], _, rfl, _ => .nil
  | (x, t) :: l, _, rfl, hz => .cons (.strI rfl (hz _ (List.mem_cons_self ..))) (vsStrs l _ rfl fun y hy => hz y (List.mem_cons_of_mem _ hy))
theorem splitN_le (c : Nat) : ∀ l : List Nat, (∀ x ∈ splitN c l, x.length ≤ l.length) ∧ (splitN c l).length ≤ l.length + 1
  | [] => by simp [splitN]
  | a :: r => by
    obtain ⟨h1, h2⟩ := splitN_le c r
    unfold splitN
    by_cases e : a = c
    · rw [if_pos e]
      refine ⟨fun x hx => ?_, by simp; exact h2⟩
      rcases List.mem_cons.mp hx with rfl | hx
      · simp
      · have := h1 x hx; simp; exact ar77 this
    · rw [if_neg e]
      cases hs : splitN c r with
      | nil => simp
      | cons x q =>
        rw [hs] at h1 h2
        refine ⟨fun y hy => ?_, by simp at h2 ⊢; exact ar77 h2⟩
        rcases List.mem_cons.mp hy with rfl | hy
        · have := h1 x (List.mem_cons_self ..); simp; exact this
        · have := h1 y (List.mem_cons_of_mem _ hy); simp; exact ar77 this
end
section
open PySem.Builtin PySem.Builtin.Str
variable {G : GG} {F : Fm} {k : Nat} {ρ : Rho} {μ : Mu} {W : Wd} {s : Shared} {A : Around}
theorem PQ.fresh {Q : D → Rho → Mu → Prop} {vs : Array Value} {n : Nat} {ds : List D} (R : Rel G F W ρ μ s) (t : Nat) (hz : vs.size ≤ big) (hv : Vs W.π W.φ vs.toList ds) (h : Q (.list ds) ρ μ) : PQ G F W RV Q (.ref s.heap.objs.size) { s with heap := s.heap.push (listO vs n), toks := t } :=
  .new R rfl t (fun W' le e => .list e hz (hv.up le)) h
theorem m_split {x : List Nat} {c : Nat} {Q : D → Rho → Mu → Prop} {X} (hz : x.length ≤ 1000000) (h : Q (.list ((splitN c x).map .str)) ρ μ) : OpMe G F k "str.split" (.str x) [.str [c]] ρ μ Q X := fun W A s v vs a r hv hvs => by
  obtain ⟨x, t, rfl, rfl⟩ := hv.strE
  obtain ⟨u, rfl, hu⟩ := hvs.one
  obtain ⟨y, t', rfl, hy⟩ := hu.strE
  cases oneStr hy
  obtain ⟨b1, b2⟩ := splitN_le c x.cps.toList
  have done : ∀ (l : List (Str × Tok)) (t : Nat), l.map (·.1) = Txt.split x ⟨#[c]⟩ → PQ G F W RV Q (.ref s.heap.objs.size) { s with heap := s.heap.push (listO (strValues l).toArray 0), toks := t } := fun l t e => by
    have e2 : l.map (fun p => p.1.cps.toList) = splitN c x.cps.toList := by
      rw [← split_eq, ← e, List.map_map]; rfl
    refine .fresh r t ?_ ?_ h
    · have := congrArg List.length e2
      rw [List.length_map] at this
      unfold strValues; simp; unfold big; exact ar80 hz b2 this
    · show Vs _ _ (strValues l) _
      exact vsStrs l _ e2 fun p hp => by have := b1 p hp; unfold big; exact ar81 hz this
  have hsz : x.length ≤ sizeLine := by rw [len_cps]; exact sizeLine_ge hz
  have ys : ((⟨#[c]⟩ : Str).length == 0) = false := rfl
  cases h1 : (decide (x.length < (⟨#[c]⟩ : Str).length) || decide (strKind x < strKind ⟨#[c]⟩))
  · cases hf : (occurrences x ⟨#[c]⟩ 0 x.length (x.length + 1)).isEmpty
    · have e3 : Txt.split x ⟨#[c]⟩ = partsBetween x (occurrences x ⟨#[c]⟩ 0 x.length (x.length + 1)) (⟨#[c]⟩ : Str).length := by
        unfold Txt.split; rw [if_neg (by rw [h1]; exact Bool.false_ne_true), if_neg (by rw [hf]; exact Bool.false_ne_true)]
      refine call_meets PySem.F.slot_str_split (typeIs_str _ _ _) PySem.F.entry_str_split (PySem.F.args_str_split_2 _ _) (meets_str_split_sep x ⟨#[c]⟩ t t' h1 ys hf hsz ?_) ?_
      · rw [← e3]
        have := congrArg List.length (split_eq x c)
        rw [List.length_map] at this
        rw [this, sizeLine_eq]; exact ar82 hz b2
      · show wants _ _ _ { s with toks := _, heap := s.heap.push { cls := .type "list", data := .seq (strsFrom s.toks (partsBetween x (occurrences x ⟨#[c]⟩ 0 x.length (x.length + 1)) (⟨#[c]⟩ : Str).length)).toArray } }
        rw [strsFrom_eq]
        exact done (numbered s.toks _) _ ((numbered_texts _ _).trans e3.symm)
    · have e3 : Txt.split x ⟨#[c]⟩ = [x] := by unfold Txt.split; rw [if_neg (by rw [h1]; exact Bool.false_ne_true), if_pos hf]
      exact call_meets PySem.F.slot_str_split (typeIs_str _ _ _) PySem.F.entry_str_split (PySem.F.args_str_split_2 _ _) (meets_str_split_not_found x ⟨#[c]⟩ t t' h1 ys hf) (done [(x, t)] s.toks e3.symm)
  · have e3 : Txt.split x ⟨#[c]⟩ = [x] := by unfold Txt.split; rw [if_pos h1]
    exact call_meets PySem.F.slot_str_split (typeIs_str _ _ _) PySem.F.entry_str_split (PySem.F.args_str_split_2 _ _) (meets_str_split_cannot_occur x ⟨#[c]⟩ t t' h1) (done [(x, t)] s.toks e3.symm)
theorem strsOf {π : List Addr} {φ : PMap} : ∀ {vs : List Value} {xs : List (List Nat)}, Vs π φ vs (xs.map .str) → ∃ l : List (Str × Tok), vs = strValues l ∧ l.map (fun p => p.1.cps.toList) = xs
  | _, [], h => by rcases h with _ | _; exact ⟨[], rfl, rfl⟩
  | _, x :: xs, h => by
    rcases h with _ | ⟨p, r⟩
    obtain ⟨y, t, rfl, rfl⟩ := p.strE
    obtain ⟨l, rfl, rfl⟩ := strsOf r
    exact ⟨(y, t) :: l, rfl, rfl⟩
theorem m_join {x : List Nat} {xs : List (List Nat)} {Q : D → Rho → Mu → Prop} {X} (hz : (xs.map List.length).sum + xs.length * x.length ≤ 1000000) (h : Q (.str (joinN x xs)) ρ μ) : OpMe G F k "str.join" (.str x) [.list (xs.map .str)] ρ μ Q X := fun W A s v vs a r hv hvs => by
  obtain ⟨x, t, rfl, rfl⟩ := hv.strE
  obtain ⟨u, rfl, hu⟩ := hvs.one
  obtain ⟨b, us, n, rfl, hl, rl⟩ := hu.listE
  obtain ⟨l, e, rfl⟩ := strsOf rl
  have e2 : us = (strValues l).toArray := by rw [← e]
  subst e2
  have hlen : ∀ l : List (Str × Tok), ((l.map (·.1)).map (·.length)).sum = ((l.map (fun p => p.1.cps.toList)).map List.length).sum := fun l => by
    rw [List.map_map, List.map_map]
    congr 1
  refine PySem.SC.join (r.isL hl) rfl ?_ fun t' k => .val (r.toks _) (.strI ?_ ?_) h
  · unfold JoinOk tooLong
    rw [StrLaws.joinTotal, hlen, sizeLine_eq, Bool.not_eq_true', decide_eq_false_iff_not, List.length_map, len_cps]
    rw [List.length_map] at hz
    exact ar83 hz
  · show (glued x _).cps.toList = _
    rw [StrLaws.glued_eq_join, join_cps, List.map_map]; rfl
  · have := StrLaws.join_length_le x (l.map (·.1))
    rw [len_cps, join_cps, hlen, List.map_map, List.length_map, len_cps] at this
    rw [List.length_map] at hz
    have e3 : ((fun x : Str => x.cps.toList) ∘ fun x : Str × Tok => x.1) = fun p => p.1.cps.toList := rfl
    rw [e3] at this
    unfold big; exact ar84 hz this
end
section
open PySem.Builtin
variable {G : GG} {F : Fm} {k : Nat} {ρ : Rho} {μ : Mu} {W : Wd} {s : Shared} {A : Around}
noncomputable abbrev latin : Str := Str.ofString "latin-1"
theorem dec_entry (c : UInt8) (cs : List UInt8) (t t2 : Tok) : «bytes.decode» ⟨[.bytes (c :: cs).toArray t, .str latin t2], []⟩ = (mkStr (Str.ofString "utf-8") >>= fun zz => mkStr latin >>= fun e => mkStr (Str.ofString "bytes.decode") >>= fun d =>
    call (.builtin "_codecs.decode.text") [.bytes (c :: cs).toArray t, e, .none, d] >>= fun v => ret v) := by kernel_rfl
theorem dec_road {id : String} {b : Array UInt8} : _codecs.decodeRoad id b latin none [] = (_codecs.runDecoder id _codecs.latin1Decoder none true b 0 [] >>= fun r => mkStr ⟨r.1⟩) := by kernel_rfl
section
variable {b : Array UInt8} {t : Tok}
theorem dec_args (a b : Value) : argsOk "bytes.decode" ⟨[a, b], []⟩ := by
  unfold argsOk; rw [signature?_of (id := "bytes.decode") (n := ['e', 'd', 'o', 'c', 'e', 'd']) (o := ['s', 'e', 't', 'y', 'b']) (by kernel_rfl) FB.owner_bytes]; kernel_rfl
end
theorem forIn_steps {β : Type} (f : Nat → β → Sem (ForInStep β)) (st : Nat → β) : ∀ m i, (∀ j, i ≤ j → j < i + m → f j (st j) = pure (.yield (st (j + 1)))) → (forIn (List.range' i m) (st i) f : Sem β) = pure (st (i + m))
  | 0, i, _ => rfl
  | m + 1, i, h => by
    rw [List.range'_succ, List.forIn_cons, h i (Nat.le_refl _) (by simp +arith), pure_bind]
    show forIn (List.range' (i + 1) m) (st (i + 1)) f = _
    rw [forIn_steps f st m (i + 1) fun j h1 h2 => h j (by exact Nat.le_of_lt ‹_›) (by exact ar85 h2), show i + 1 + m = i + (m + 1) by exact Nat.add_right_comm _ _ _]
theorem run_latin {id : String} (b : Array UInt8) (hz : b.size ≤ 1000000) : _codecs.runDecoder id _codecs.latin1Decoder none true b 0 [] = pure (b.map UInt8.toNat, b.size) := by
  unfold _codecs.runDecoder
  simp only [KPc.range_list]
  have key := fun f h => forIn_steps f (fun j => (j, ((b.toList.take j).map UInt8.toNat).toArray, ({} : _codecs.Faults))) b.size 0 h
  show (do
    let r ← forIn (List.range' 0 b.size) ((fun j => (j, ((b.toList.take j).map UInt8.toNat).toArray, ({} : _codecs.Faults))) 0) _
    pure (r.snd.fst, r.fst)) = _
  rw [key]
  · rw [pure_bind, pure_bind]
    congr 2
    · apply Array.toList_inj.mp; simp; exact List.take_of_length_le (by simp)
    · exact Nat.add_comm _ _
  · intro j _ hj
    have h1 : ¬ (((b.toList.take j).map UInt8.toNat).toArray.size > sizeLine) := by
      rw [sizeLine_eq, List.size_toArray, List.length_map, List.length_take]; exact ar86 hz hj
    simp only [if_neg h1]
    rw [if_neg (show ¬ (j ≥ b.size) by exact ar87 hj)]
    show pure (ForInStep.yield (j + 1, ((b.toList.take j).map UInt8.toNat).toArray ++ [(b.getD j 0).toNat].toArray, _)) = _
    congr 4
    apply Array.toList_inj.mp
    have hb : b.toList[j]? = some (b.getD j 0) := by
      rw [Array.getElem?_toList, Array.getElem?_eq_getElem (by exact ar88 hj : j < b.size), Array.getD, dif_pos (by exact ar88 hj : j < b.size)]; rfl
    rw [List.take_add_one, hb]
    simp
theorem meets_dt {b : Array UInt8} {t t1 t2 : Tok} {d : Str} (hz : b.size ≤ 1000000) :
    Meets («_codecs.decode.text» ⟨[.bytes b t, .str latin t1, .none, .str d t2], []⟩) (fun zz R s => R (.ok (.ret (.str ⟨b.map UInt8.toNat⟩ s.toks))) { s with toks := s.toks + 1 }) := by
  refine .of_wp fun prog w A R s h => ?_
  show wpAny _ _ (Bytes.bytesLike _ (.bytes b t) >>= fun r => _) _ _ s
  refine wpAny_bind (wpAny_of_eq (KBd.like_eq) ?_)
  refine wpAny_bind (wpAny_of_eq (KBd.held_eq) ?_)
  show wpAny _ _ (_codecs.decodeRoad _ b latin none [] >>= fun v => _) _ _ s
  rw [dec_road, run_latin b hz]
  refine wpAny_bind (wpAny_bind (wpAny_pure ?_))
  exact wpAny_mkStr (wpAny_pure ⟨_, rfl, h⟩) (by rw [len_cps, sizeLine_eq]; simp; exact ar72 hz)
theorem m_decode {b : List UInt8} {Q : D → Rho → Mu → Prop} {X} (hb : b ≠ [] ∧ b.length ≤ 1000000) (h : Q (.str (b.map (·.toNat))) ρ μ) : OpMe G F k "bytes.decode" (.bytes b) [.str latin.cps.toList] ρ μ Q X := fun W A s v vs a r hv hvs => by
  obtain ⟨x, t, rfl, rfl, hz⟩ := hv.bytesE
  obtain ⟨u, rfl, hu⟩ := hvs.one
  obtain ⟨y, t', rfl, hy⟩ := hu.strE
  have ey : y = latin := congrArg Str.mk (Array.toList_inj.mp hy)
  subst ey
  obtain ⟨l⟩ := x
  cases l with
  | nil => exact absurd rfl hb.1
  | cons c cs =>
    refine call_meets FB.slot_bytes_decode (PySem.W.typeIs_bytes _ _ _) FB.entry_bytes_decode (dec_args _ _) (S := fun zz R s => ∀ t' k, R (.ok (.ret (.str ⟨(c :: cs).toArray.map UInt8.toNat⟩ t'))) { s with toks := k }) (.of_wp fun prog w A R s h => ?_) fun t' k => ?_
    · rw [dec_entry]
      refine wpAny_bind (wpAny_mkStr ?_ (by decide))
      refine wpAny_bind (wpAny_mkStr ?_ (by decide))
      refine wpAny_bind (wpAny_mkStr ?_ (by decide))
      exact wpAny_bind (call_function_meets KBd.kind_text KBd.plain_text KBd.entry_text (KBd.args_text _ _ _ _) (meets_dt (by simpa using hb.2)) (wpAny_pure ⟨_, rfl, h _ _⟩))
    · exact .val (r.toks _) (.strI (by simp) (by have := hb.2; simp at this ⊢; unfold big; exact ar89 this)) h
end
section
variable {G : GG} {F : Fm} {k : Nat} {ρ : Rho} {μ : Mu} {W : Wd} {s : Shared} {A : Around} {E : Value → Shared → Prop}
theorem nested_str {prog : Program} {w : World} {tk : Tok} {dep : Int} {k : Value} {Q : Fin → Shared → Prop} (hk : k = .int dep tk) (hq : Q (.done (.ret (.bool true))) s) : wpAny (model prog w) A (Builtin.«issubclass.nested» ⟨[.type "str", .type "str", k], []⟩) Q E s := by
  subst hk
  have hm : ((Value.type "type" == Value.type "type") = true) := by decide +kernel
  unfold Builtin.«issubclass.nested»
  refine wpAny_bind (wpAny_of_eq (a := Value.type "type") (by kernel_rfl) ?_)
  rw [if_pos hm]
  exact wpAny_bind (wpAny_of_eq (a := true) (by kernel_rfl) (wpAny_pure hq))
theorem no_kind_nested : builtinKind "issubclass.nested" = none := by decide +kernel
theorem plain_nested : plainId "issubclass.nested" = true := by decide +kernel
theorem args_nested (a b c : Value) : argsOk "issubclass.nested" ⟨[a, b, c], []⟩ := by unfold argsOk; kernel_rfl
theorem sub_pair {t : Addr} {n : Nat} {P : Value → Shared → Prop} (ht : s.heap.get? t = some (tupO #[.type "str", .type "bytes"] n)) (h : P (.bool true) s) : wpAny G.M A (call (.builtin "issubclass") [.type "str", .ref t]) P E s := by
  refine call_function_meets (S := fun A R s' => s' = s ∧ R (.ok (.ret (.bool true))) s) F.kind_issubclass F.plain_issubclass F.entry_issubclass (F.args_issubclass_2 _ _) ?_ ⟨rfl, h⟩
  intro prog w A' R s' hs
  obtain ⟨e, hR⟩ := hs
  subst e
  refine issubclass_outer ?_
  unfold Builtin.«issubclass.nested»
  refine wpAny_bind (wpAny_typeOf ⟨_, ht, rfl⟩ ?_)
  rw [if_neg (by decide +kernel)]
  refine wpAny_bind (m := Builtin.Builtins.unionMembers (.ref t)) ?_
  unfold Builtin.Builtins.unionMembers
  refine wpAny_bind (wpAny_typeOf ⟨_, ht, rfl⟩ ?_)
  rw [if_neg (by decide +kernel)]
  refine wpAny_pure ?_
  refine wpAny_bind (wpAny_isInstance (T := "tuple") (b := true) ⟨_, ht, rfl⟩ (by rw [isSubtype_type]; kernel_rfl) ?_)
  refine wpAny_bind (wpAny_seqItems ht rfl ?_)
  refine wpAny_bind ?_
  show wpAny _ _ (forIn (#[Value.type "str", .type "bytes"] : Array Value) _ _) _ _ _
  rw [← Array.forIn_toList]
  show wpAny _ _ (forIn [Value.type "str", .type "bytes"] _ _) _ _ _
  rw [List.forIn_cons]
  refine wpAny_bind (wpAny_bind (m := call (.builtin "issubclass.nested") [.type "str", .type "str", rawInt (0 + 1)]) (call_function_meets (S := fun A R s1 => s1 = s' ∧ R (.ok (.ret (.bool true))) s') no_kind_nested plain_nested F.entry_issubclass_nested (args_nested _ _ _) (fun prog w A' R s' hs => ?_) ⟨rfl, ?_⟩))
  · obtain ⟨e, hR⟩ := hs
    subst e
    exact nested_str (k := rawInt (0 + 1)) rfl hR
  refine wpAny_bind (wpAny_truthy_bool ?_)
  rw [if_pos rfl]
  exact wpAny_bind (wpAny_pure (wpAny_pure (wpAny_pure (wpAny_pure hR))))
theorem bi_sub {Q : D → Rho → Mu → Prop} {X} (h : Q (.bool true) ρ μ) : OpN G F k RV (bcall (.builtin "issubclass")) [.ty "str", .tup [.ty "str", .ty "bytes"]] ρ μ Q X := fun W A s vs a r hvs => by
  obtain ⟨v, u, rfl, hv, hu⟩ := hvs.two
  obtain ⟨t, us, n, rfl, ht, rl⟩ := hu.tupE
  obtain ⟨v1, v2, e, h1, h2⟩ := rl.two
  rw [h1.tyE, h2.tyE] at e
  rw [hv.tyE]
  have : us = #[.type "str", .type "bytes"] := Array.toList_inj.mp e
  subst this
  exact sub_pair (r.wr.φ _ _ ht) (.val r (.bool _) h)
end
section
variable {G : GG} {F : Fm} {k : Nat} {ρ : Rho} {μ : Mu} {W : Wd} {s : Shared} {A : Around} {E : Value → Shared → Prop}
theorem octs {π : List Addr} {φ : PMap} : ∀ {ns : List UInt8} {vs : List Value}, Vs π φ vs (ns.map fun b => .int b.toNat) → IntsAre vs (ns.map fun b => (b.toNat : Int))
  | [], _, .nil => .nil
  | n :: ns, _, .cons hv r => by
    obtain ⟨t, rfl⟩ := hv.intE
    exact .cons _ t (octs r)
theorem oct_back (ns : List UInt8) : byteArr (ns.map fun b => (b.toNat : Int)) = ns.toArray := by
  unfold byteArr
  rw [List.map_map]
  exact congrArg List.toArray ((List.map_congr_left fun b zz => UInt8.ofNat_toNat).trans (List.map_id _))
theorem bi_bytes {ns : List UInt8} {Q : D → Rho → Mu → Prop} {X} (hz : ns.length ≤ big) (h : Q (.bytes ns) ρ μ) : OpN G F k RV (bcall (.type "bytes")) [.list (ns.map fun b => .int b.toNat)] ρ μ Q X := fun W A s vs a r hvs => by
  obtain ⟨v, rfl, hv⟩ := hvs.one
  obtain ⟨l, us, n, rfl, hl, rl⟩ := hv.listE
  have e := rl.length
  rw [List.length_map] at e
  refine call_bytes_ints (ns := ns.map fun b => (b.toNat : Int)) (r.isL hl) (octs rl) (fun n hn => ?_) (e ▸ hz) a.handled fun h' t k hk => .val (r.keeps hk) ?_ h
  · obtain ⟨b, zz, rfl⟩ := List.mem_map.mp hn
    exact ⟨Int.natCast_nonneg _, Int.ofNat_lt.mpr (UInt8.toNat_lt b)⟩
  · rw [oct_back]; exact .bytes ns.toArray t hz
end
section
section
variable {prog : Program} {w : World} {A : Around} {E : Value → Shared → Prop} {s : Shared} {a₀ : Array Keyed} {κ : KeyKind}
noncomputable def LtHere (prog : Program) (w : World) (A : Around) (s : Shared) (κ : KeyKind) : Prop := ∀ (E : Value → Shared → Prop) (x y : Value) (a b : κ.α) {Q : Bool → Shared → Prop}, κ.keyOf x = some a → κ.keyOf y = some b → Q (κ.blt a b) s → wpAny (model prog w) A (oneLt' true x y) Q E s
structure Srt (prog : Program) (w : World) (A : Around) (s : Shared) (κ : KeyKind) (a₀ : Array Keyed) : Prop where
  lt : LtHere prog w A s κ
  keys : KeysOf κ a₀
theorem Srt.less (H : Srt prog w A s κ a₀) {st : SortSt} {i j : Nat} {Q : Option Bool → SortSt → Prop} (hB : SBase a₀ st) (hi : i < a₀.size) (hj : j < a₀.size)
    (h1 : κ.blt (KK κ (arrOf st) i) (KK κ (arrOf st) j) = true → Q (some true) st) (h2 : κ.blt (KK κ (arrOf st) i) (KK κ (arrOf st) j) = false → Q (some false) st) : wpS (model prog w) A E s (ltAt' i j) Q st := by
  obtain ⟨x, p, a, e1, ha, ka⟩ := hB.atK H.keys hi
  obtain ⟨y, q, b, e2, hb, kb⟩ := hB.atK H.keys hj
  rw [ka, kb] at h1 h2
  have h : Q (some (κ.blt a b)) st := by
    cases e : κ.blt a b with
    | true => exact h1 e
    | false => exact h2 e
  rw [ltAt'_eq]
  refine wpS_bind (wpS_get ?_)
  show wpS _ _ _ _ (do let x ← elem' (arrOf st) i; let y ← elem' (arrOf st) j; lt' x y) Q st
  rw [elem'_eq, elem'_eq, e1, e2]
  refine wpS_bind (wpS_pure (wpS_bind (wpS_pure ?_)))
  rw [lt'_eq]
  refine wpS_bind (wpS_get ?_)
  rw [hB.kind, keyLt'_oneType]
  exact wpS_bind (wpS_lift (wpAny_attempt (H.lt _ x y a b ha hb ⟨rfl, wpS_pure h⟩)))
theorem sorted_one {xs : Array Keyed} : SortedToK κ xs 1 := fun i j hij hj => by
  have : i = j := by exact ar11 hij hj
  subst this; exact KeyOrd.kle_refl _
theorem sorted_more {xs : Array Keyed} {x : Nat} (h : SortedToK κ xs x) (hl : κ.kle (KK κ xs (x - 1)) (KK κ xs x)) : SortedToK κ xs (x + 1) := fun i j hij hj => by
  rcases Nat.lt_or_eq_of_le (Nat.le_of_lt_succ hj) with q | rfl
  · exact h i j hij q
  · rcases Nat.lt_or_eq_of_le hij with q | rfl
    · exact KeyOrd.kle_trans (h i (j - 1) (by exact ar12 q) (by exact ar13 q)) hl
    · exact KeyOrd.kle_refl _
theorem falls_more {xs : Array Keyed} {x : Nat} (h : NonIncK κ xs x) (hl : κ.kle (KK κ xs x) (KK κ xs (x - 1))) : NonIncK κ xs (x + 1) := fun i j hij hj => by
  rcases Nat.lt_or_eq_of_le (Nat.le_of_lt_succ hj) with q | rfl
  · exact h i j hij q
  · rcases Nat.lt_or_eq_of_le hij with q | rfl
    · exact KeyOrd.kle_trans hl (h i (j - 1) (by exact ar12 q) (by exact ar13 q))
    · exact KeyOrd.kle_refl _
theorem Srt.asc (H : Srt prog w A s κ a₀) {st : SortSt} {a z : Nat} {Q : AscSt → SortSt → Prop} (hz : z ≤ a₀.size) (ha : 1 ≤ a) (haz : a ≤ z) (hB : SBase a₀ st) (hs : SortedToK κ (arrOf st) a)
    (h : ∀ n, a ≤ n → n ≤ z → SortedToK κ (arrOf st) n → (n ≠ z → κ.klt (KK κ (arrOf st) n) (KK κ (arrOf st) (n - 1))) → Q (none, n) st) : wpS (model prog w) A E s (ascLoop a z) Q st := by
  unfold ascLoop
  refine wpS_forRange (I := fun x c st' => st' = st ∧ c = (none, x) ∧ SortedToK κ (arrOf st) x) ?_ ?_ ⟨rfl, rfl, hs⟩
  · rintro x c st' h1 h2 ⟨rfl, rfl, hs⟩
    refine wpS_bind (H.less hB (Nat.lt_of_lt_of_le h2 hz) (by dsimp only; exact ar14 hz h2) (fun q => ?_) fun q => ?_)
    · exact wpS_pure (h x h1 (Nat.le_of_lt h2) hs fun zz => q)
    · exact wpS_pure ⟨rfl, rfl, sorted_more hs q⟩
  · rintro c st' ⟨rfl, rfl, hs⟩
    rw [Nat.max_eq_right haz] at hs ⊢
    exact h z haz (Nat.le_refl _) hs fun q => absurd rfl q
end
end
section
section
variable {prog : Program} {w : World} {A : Around} {E : Value → Shared → Prop} {s : Shared} {a₀ : Array Keyed} {κ : KeyKind}
noncomputable def RunsTo (κ : KeyKind) (a₀ : Array Keyed) (z : Nat) (Q : Option Nat → SortSt → Prop) : Prop := ∀ m st', SBase a₀ st' → 1 ≤ m → m ≤ z → SortedToK κ (arrOf st') m → Q (some m) st'
theorem mirror_falls {xs : Array Keyed} {n : Nat} (hn : n ≤ xs.size) (h : NonIncK κ xs n) : SortedToK κ (mirror xs 0 n ((n - 0) / 2)) n := fun i j hij hj => by
  rw [KK_mirror hn, KK_mirror hn, if_pos ⟨Nat.zero_le _, by exact Nat.lt_of_le_of_lt ‹_› ‹_›⟩, if_pos ⟨Nat.zero_le _, hj⟩]
  exact h _ _ (by exact ar15 hij) (by exact ar16 hj)
theorem same_falls {xs ys : Array Keyed} {n : Nat} (e : ∀ k, KK κ ys k = KK κ xs k) (h : NonIncK κ xs n) : NonIncK κ ys n := fun i j hij hj => by rw [e, e]; exact h i j hij hj
theorem Srt.tail (H : Srt prog w A s κ a₀) {st : SortSt} {n z : Nat} {Q : Option Nat → SortSt → Prop} (hz : z ≤ a₀.size) (h1 : 1 ≤ n) (hn : n ≤ z) (hB : SBase a₀ st) (hs : NonIncK κ (arrOf st) n) (h : RunsTo κ a₀ z Q) : wpS (model prog w) A E s (tail3 n z) Q st := by
  unfold tail3
  rw [reverseSlice'_eq]
  have hB' : SBase a₀ (setArr st (mirror (arrOf st) 0 n ((n - 0) / 2))) := hB.setArr (mirror_perm _ _ _ _)
  exact wpS_bind (wpS_modify (wpS_bind (H.asc hz h1 hn hB' (mirror_falls (by rw [hB.size]; exact Nat.le_trans ‹_› ‹_›) hs) fun m m1 m2 hm zz => wpS_pure (h m _ hB' (by exact Nat.le_trans ‹_› ‹_›) m2 hm))))
theorem Srt.desc (H : Srt prog w A s κ a₀) {st : SortSt} {n z : Nat} {Q : DescSt → SortSt → Prop} (hz : z ≤ a₀.size) (h1 : 1 ≤ n) (hn : n ≤ z) (hB : SBase a₀ st) (hs : NonIncK κ (arrOf st) n)
    (h : ∀ m e st', SBase a₀ st' → n ≤ m → m ≤ z → NonIncK κ (arrOf st') m → e + 1 ≤ m → (∀ i, m - (e + 1) ≤ i → i < m → KK κ (arrOf st') i = KK κ (arrOf st') (m - 1)) → Q (none, m, e) st') : wpS (model prog w) A E s (descLoop n z) Q st := by
  have one : ∀ (xs : Array Keyed) (x i : Nat), x + 1 - (0 + 1) ≤ i → i < x + 1 → KK κ xs i = KK κ xs (x + 1 - 1) := fun xs x i a b => by rw [show i = x + 1 - 1 by exact ar17 a b]
  unfold descLoop
  refine wpS_forRange (I := fun x c st' => ∃ e, c = (none, x, e) ∧ SBase a₀ st' ∧ NonIncK κ (arrOf st') x ∧ e + 1 ≤ x ∧ ∀ i, x - (e + 1) ≤ i → i < x → KK κ (arrOf st') i = KK κ (arrOf st') (x - 1)) ?_ ?_ ⟨0, rfl, hB, hs, h1, fun i a b => by rw [show i = n - 1 by exact ar18 a b]⟩
  · rintro x c st' hx hxz ⟨e, rfl, hB, hs, he, heq⟩
    have hsz : x ≤ (arrOf st').size := by rw [hB.size]; exact ar19 hz hxz
    refine wpS_bind (H.less hB (Nat.lt_of_lt_of_le hxz hz) (by dsimp only; exact ar14 hz hxz) (fun q => ?_) fun q => wpS_bind (H.less hB (by dsimp only; exact ar14 hz hxz) (Nat.lt_of_lt_of_le hxz hz) (fun q2 => ?_) fun q2 => ?_))
    · have q := KeyOrd.kle_of_klt q
      dsimp only
      rw [if_pos rfl]
      by_cases c : e > 0
      · rw [if_pos c, reverseSlice'_eq]
        have sm := KK_mirror_equal hsz heq
        exact wpS_bind (wpS_modify (wpS_pure ⟨0, rfl, hB.setArr (mirror_perm _ _ _ _), same_falls sm (falls_more hs q), by exact Nat.succ_pos _, one _ x⟩))
      · rw [if_neg c]
        exact wpS_pure ⟨0, rfl, hB, falls_more hs q, by exact Nat.succ_pos _, one _ x⟩
    · dsimp only
      rw [if_pos rfl]
      exact wpS_pure (h x e st' hB hx (Nat.le_of_lt hxz) hs he heq)
    · dsimp only
      rw [if_neg Bool.false_ne_true]
      have ex : KK κ (arrOf st') x = KK κ (arrOf st') (x - 1) := KeyOrd.kle_antisymm q2 q
      refine wpS_pure ⟨e + 1, rfl, hB, falls_more hs (by rw [ex]; exact KeyOrd.kle_refl _), by exact Nat.lt_succ_of_le ‹_›, fun i a b => ?_⟩
      rw [Nat.add_sub_cancel, ex]
      rcases Nat.lt_or_eq_of_le (Nat.le_of_lt_succ b) with b | rfl
      · exact heq i (by exact ar20 a) b
      · exact ex
  · rintro c st' ⟨e, rfl, hB, hs, he, heq⟩
    rw [Nat.max_eq_right hn] at hs he heq ⊢
    exact h z e st' hB hn (Nat.le_refl _) hs he heq
end
end
section
section
variable {prog : Program} {w : World} {A : Around} {E : Value → Shared → Prop} {s : Shared} {a₀ : Array Keyed} {κ : KeyKind}
theorem Srt.part (H : Srt prog w A s κ a₀) {st : SortSt} {n z : Nat} {Q : Option Nat → SortSt → Prop} (hz : z ≤ a₀.size) (hn : n + 1 ≤ z) (hB : SBase a₀ st) (hs : NonIncK κ (arrOf st) (n + 1)) (h : RunsTo κ a₀ z Q) : wpS (model prog w) A E s (descPart n z) Q st := by
  unfold descPart
  refine wpS_bind (wpS_lift (wpAny_rule ⟨rfl, ?_⟩))
  refine wpS_bind (H.desc hz (Nat.le_add_left 1 n) hn hB hs fun m e st' hB m1 m2 hs he heq => ?_)
  have h1 : 1 ≤ m := Nat.le_trans (Nat.le_add_left 1 n) m1
  dsimp only
  by_cases c : e > 0
  · rw [if_pos c, reverseSlice'_eq]
    refine wpS_bind (wpS_modify (H.tail hz h1 m2 (hB.setArr (mirror_perm _ _ _ _)) (same_falls (KK_mirror_equal ?_ heq) hs) h))
    rw [hB.size]; exact Nat.le_trans m2 hz
  · rw [if_neg c]; exact H.tail hz h1 m2 hB hs h
theorem falls_one {xs : Array Keyed} : NonIncK κ xs 1 := fun i j hij hj => by
  have : i = j := by exact ar11 hij hj
  subst this; exact KeyOrd.kle_refl _
theorem Srt.count (H : Srt prog w A s κ a₀) {st : SortSt} {z : Nat} {Q : Option Nat → SortSt → Prop} (hz : z ≤ a₀.size) (h1 : 1 ≤ z) (hB : SBase a₀ st) (h : RunsTo κ a₀ z Q) : wpS (model prog w) A E s (countRun' 0 z) Q st := by
  rw [countRun0_eq]
  refine wpS_bind (H.asc hz (Nat.le_refl 1) h1 hB sorted_one fun n n1 n2 hs hl => ?_)
  dsimp only
  by_cases c : n = z
  · rw [if_pos (beq_iff_eq.mpr c)]
    exact wpS_pure (h n st hB n1 n2 hs)
  rw [if_neg fun q => c (beq_iff_eq.mp q)]
  have hl := KeyOrd.kle_of_klt (hl c)
  have nz : n + 1 ≤ z := Nat.lt_of_le_of_ne n2 c
  by_cases c2 : n > 1
  · rw [if_pos c2]
    refine wpS_bind (H.less hB (by exact ar21 hz nz) (by exact ar22 hz nz) (fun q => ?_) fun q => ?_)
    · dsimp only
      rw [if_pos rfl]
      exact wpS_pure (h n st hB n1 n2 hs)
    · dsimp only
      rw [if_neg Bool.false_ne_true, reverseSlice'_eq]
      have hall : ∀ k, 0 ≤ k → k < n → KK κ (arrOf st) k = KK κ (arrOf st) (n - 1) := fun k zz hk => KeyOrd.kle_antisymm (hs k (n - 1) (by exact ar12 hk) (by exact ar13 hk)) (KeyOrd.kle_trans q (hs 0 k (Nat.zero_le _) hk))
      have hf : NonIncK κ (arrOf st) n := fun i j hij hj => by rw [hall i (Nat.zero_le _) (by exact Nat.lt_of_le_of_lt ‹_› ‹_›), hall j (Nat.zero_le _) hj]; exact KeyOrd.kle_refl _
      exact wpS_bind (wpS_modify (H.part hz nz (hB.setArr (mirror_perm _ _ _ _)) (same_falls (KK_mirror_equal (by rw [hB.size]; exact Nat.le_trans ‹_› ‹_›) hall) (falls_more hf hl)) h))
  · rw [if_neg c2]
    obtain rfl : n = 1 := by exact ar23 n1 c2
    exact H.part hz nz hB (falls_more falls_one hl) h
theorem mid_le {l r : Nat} (h : l < r) : l ≤ (l + r) / 2 := by exact ar24 h
theorem mid_lt {l r : Nat} (h : l < r) : (l + r) / 2 < r := by exact ar25 h
theorem mid_d {l r x k : Nat} (m : (l + r) / 2 < r) (hd : r + x ≤ k + l) : (l + r) / 2 + (x + 1) ≤ k + l := Nat.le_trans (by rw [← Nat.succ_add_eq_add_succ]; exact Nat.add_le_add_right m x) hd
inductive BsI (κ : KeyKind) (xs : Array Keyed) (k x : Nat) : Option Bool × Nat × Nat → Prop
  | mk {l r : Nat} (hlr : l ≤ r) (hr : r ≤ k) (hd : r + x ≤ k + l) (hlo : ∀ i, i < l → κ.kle (KK κ xs i) (KK κ xs k)) (hhi : ∀ i, r ≤ i → i < k → κ.klt (KK κ xs k) (KK κ xs i)) : BsI κ xs k x (none, l, r)
theorem ins_sorted {xs : Array Keyed} {k l : Nat} (hks : k < xs.size) (hl : l ≤ k) (hlo : ∀ i, i < l → κ.kle (KK κ xs i) (KK κ xs k)) (hhi : ∀ i, l ≤ i → i < k → κ.klt (KK κ xs k) (KK κ xs i)) (hs : SortedToK κ xs k) : SortedToK κ (bubble xs k (k - l)) (k + 1) := by
  have g := @KK_bubble κ xs k (k - l) hks (Nat.sub_le _ _)
  rw [Nat.sub_sub_self hl] at g
  have g1 : ∀ i, i < l → KK κ (bubble xs k (k - l)) i = KK κ xs i := fun i q => by rw [g, if_neg (Nat.ne_of_lt q), if_neg fun e => Nat.lt_asymm q e.1]
  have g2 : KK κ (bubble xs k (k - l)) l = KK κ xs k := by rw [g, if_pos rfl]
  have g3 : ∀ i, l < i + 1 → i + 1 < k + 1 → KK κ (bubble xs k (k - l)) (i + 1) = KK κ xs i := fun i q p => by rw [g, if_neg (Nat.ne_of_gt q), if_pos ⟨q, Nat.le_of_lt_succ p⟩]; rfl
  intro i j hij hj
  rcases Nat.lt_trichotomy j l with c | c | c
  · rw [g1 j c, g1 i (Nat.lt_of_le_of_lt hij c)]; exact hs i j hij (Nat.lt_of_lt_of_le c hl)
  · rw [c, g2]
    rcases Nat.lt_or_eq_of_le (c ▸ hij) with q | q
    · rw [g1 i q]; exact hlo i q
    · rw [q, g2]; exact KeyOrd.kle_refl _
  · cases j with
    | zero => exact absurd c (Nat.not_lt_zero _)
    | succ j =>
      rw [g3 j c hj]
      have hj := Nat.lt_of_succ_lt_succ hj
      rcases Nat.lt_trichotomy i l with q | q | q
      · rw [g1 i q]; exact hs i j (Nat.le_trans (Nat.le_of_lt q) (Nat.le_of_lt_succ c)) hj
      · rw [q, g2]; exact KeyOrd.kle_of_klt (hhi j (Nat.le_of_lt_succ c) hj)
      · cases i with
        | zero => exact absurd q (Nat.not_lt_zero _)
        | succ i =>
          rw [g3 i q (Nat.lt_of_le_of_lt hij (Nat.succ_lt_succ hj))]; exact hs i j (Nat.le_of_succ_le_succ hij) hj
theorem Srt.insert (H : Srt prog w A s κ a₀) {st : SortSt} {n ok : Nat} {Q : Bool → SortSt → Prop} (hn : n ≤ a₀.size) (hok : ok ≤ n) (h0 : 1 ≤ ok) (hB : SBase a₀ st) (hs : SortedToK κ (arrOf st) ok) (h : ∀ st', SBase a₀ st' → SortedToK κ (arrOf st') n → Q true st') :
    wpS (model prog w) A E s (binarySort' 0 n ok) Q st := by
  rw [binarySort'_eq]
  simp only [Nat.zero_add]
  rw [Nat.max_eq_left h0]
  refine wpS_bind (wpS_mono (wpS_forRange (I := fun k c st' => c = (none, ()) ∧ SBase a₀ st' ∧ SortedToK κ (arrOf st') k) (Q := fun c st' => c = (none, ()) ∧ SBase a₀ st' ∧ SortedToK κ (arrOf st') n) ?_ ?_ ⟨rfl, hB, hs⟩) ?_)
  · rintro k c st' hk hkn ⟨rfl, hB, hs⟩
    have hka : k < a₀.size := Nat.lt_of_lt_of_le hkn hn
    clear h hk hkn
    refine wpS_bind (wpS_mono (wpS_forRange (I := fun x c st'' => st'' = st' ∧ BsI κ (arrOf st') k x c)
      (Q := fun c st'' => st'' = st' ∧ BsI κ (arrOf st') k k c) ?_ ?_ ⟨rfl, .mk (Nat.zero_le _) (Nat.le_refl _) (Nat.le_refl _) (fun i q => absurd q (Nat.not_lt_zero _)) fun i a b => absurd b (Nat.not_lt.mpr a)⟩) ?_)
    · rintro x _ _ _ hx ⟨rfl, @⟨l, r, hlr, hr, hd, hlo, hhi⟩⟩
      dsimp only
      by_cases c : l ≥ r
      · rw [if_pos c]
        exact wpS_pure ⟨rfl, .mk hlr hr (by rw [Nat.add_comm]; exact Nat.add_le_add_left c k) hlo hhi⟩
      rw [if_neg c]
      have c := Nat.lt_of_not_le c
      have m := mid_lt c
      refine wpS_bind (H.less hB hka (Nat.lt_trans (Nat.lt_of_lt_of_le m hr) hka) (fun q => ?_) fun q => ?_)
      · dsimp only
        rw [if_pos rfl]
        exact wpS_pure ⟨rfl, .mk (mid_le c) (Nat.le_trans (Nat.le_of_lt m) hr) (mid_d m hd) hlo fun i a b => KeyOrd.klt_of_klt_of_kle q (hs _ _ a b)⟩
      · dsimp only
        rw [if_neg Bool.false_ne_true]
        exact wpS_pure ⟨rfl, .mk m hr (Nat.succ_le_succ (Nat.le_trans hd (Nat.add_le_add_left (mid_le c) k))) (fun i a => KeyOrd.kle_trans (hs i _ (Nat.le_of_lt_succ a) (Nat.lt_of_lt_of_le m hr)) q) hhi⟩
    · rintro c st'' h
      exact h
    · rintro _ _ ⟨rfl, @⟨l, r, hlr, hr, hd, hlo, hhi⟩⟩
      have e : r = l := Nat.le_antisymm (Nat.le_of_add_le_add_right (Nat.le_trans hd (Nat.le_of_eq (Nat.add_comm _ _)))) hlr
      rw [e] at hr hhi
      show wpS _ _ _ _ (do moveDown' k l; pure (ForInStep.yield (none, ()))) _ _
      rw [moveDown'_eq]
      exact wpS_bind (wpS_modify (wpS_pure ⟨rfl, hB.setArr (bubble_perm _ _ _), ins_sorted (by rw [hB.size]; exact hka) hr hlo hhi hs⟩))
  · rintro c st' ⟨rfl, hB, hs⟩
    rw [Nat.max_eq_right hok] at hs
    exact ⟨rfl, hB, hs⟩
  · rintro c st' ⟨rfl, hB, hs⟩
    exact wpS_pure (h st' hB hs)
end
end
section
section
variable {prog : Program} {w : World} {A : Around} {E : Value → Shared → Prop} {s : Shared} {a₀ : Array Keyed} {κ : KeyKind}
structure Done (κ : KeyKind) (a₀ : Array Keyed) (st : SortSt) : Prop where
  perm : (arrOf st).Perm a₀
  ok : failedOf st = none
  pend : pendingOf st = #[(0, a₀.size, 0)]
  ord : SortedToK κ (arrOf st) a₀.size
theorem Done.of {st : SortSt} (hB : SBase a₀ st) (hs : SortedToK κ (arrOf st) a₀.size) : Done κ a₀ (setPending st ((pendingOf st).push (0, a₀.size, 0))) :=
  ⟨hB.perm, hB.failed, by show (pendingOf st).push _ = _; rw [hB.pend]; rfl, hs⟩
theorem Srt.runs (H : Srt prog w A s κ a₀) {st : SortSt} {Q : Unit → SortSt → Prop} (hB : SBase a₀ st) (h2 : 2 ≤ a₀.size) (h64 : a₀.size < 64) (h : ∀ st', Done κ a₀ st' → Q () st') : wpS (model prog w) A E s sortRuns' Q st := by
  have hm : minRun' a₀.size a₀.size 0 = a₀.size := by
    obtain ⟨f, hf⟩ : ∃ f, a₀.size = f + 1 := ⟨a₀.size - 1, by exact ar26 h2⟩
    rw [hf, minRun'_succ, if_pos (by exact ar27 h64 hf)]
  rw [sortRuns'_eq]
  refine wpS_bind (wpS_get ?_)
  dsimp only
  rw [hB.size, hm]
  have last : ∀ st2 : SortSt, SBase a₀ st2 → SortedToK κ (arrOf st2) a₀.size → Done κ a₀ (setPending st2 ((pendingOf st2).push (0, a₀.size, 0))) := fun zz => Done.of
  refine wpS_bind (wpS_mono (wpS_forRange (I := fun x c st' => (x = 0 ∧ c = (none, 0) ∧ SBase a₀ st') ∨ (1 ≤ x ∧ c = (none, a₀.size) ∧ Done κ a₀ st')) (Q := fun c st' => c = (none, a₀.size) ∧ Done κ a₀ st') ?_ ?_ (.inl ⟨rfl, rfl, hB⟩)) ?_)
  · rintro x c st' _ hx (⟨rfl, rfl, hB⟩ | ⟨hx1, rfl, hD⟩)
    · dsimp only
      rw [if_neg (by exact Nat.not_le.mpr ‹_›)]
      rw [Nat.sub_zero, Nat.min_self, Nat.zero_add]
      refine wpS_bind (H.count (Nat.le_refl _) (by (first | assumption | exact Nat.le_refl _ | exact Nat.zero_le _ | exact Nat.le_of_lt ‹_› | exact Nat.succ_le_of_lt ‹_› | exact Nat.le_of_lt_succ ‹_› | exact Nat.lt_succ_of_le ‹_› | exact Nat.lt_succ_self _ | exact Nat.succ_pos _ | exact Nat.le_add_right _ _ | exact Nat.le_add_left _ _ | exact Nat.sub_le _ _ | exact Nat.le_of_eq ‹_› | exact Nat.le_of_eq (Eq.symm ‹_›) | exact Nat.le_trans ‹_› ‹_› | exact Nat.lt_of_lt_of_le ‹_› ‹_› | exact Nat.lt_of_le_of_lt ‹_› ‹_› | exact Nat.lt_trans ‹_› ‹_› | exact Nat.ne_of_lt ‹_› | exact Nat.ne_of_gt ‹_› | exact Nat.le_of_not_lt ‹_› | exact Nat.lt_of_not_le ‹_› | exact Nat.not_lt.mpr ‹_› | exact Nat.not_le.mpr ‹_› | exact Nat.sub_add_cancel ‹_› | exact Nat.add_comm _ _ | exact Nat.add_assoc _ _ _ | exact Nat.add_right_comm _ _ _ | exact Int.natCast_nonneg _ | exact Int.ofNat_le.mpr ‹_› | exact Int.ofNat_lt.mpr ‹_› | exact (Nat.lt_irrefl _ ‹_›).elim)) hB fun m st2 hB2 m1 m2 hs => ?_)
      dsimp only
      by_cases c : m < a₀.size
      · rw [if_pos c]
        refine wpS_bind (wpS_lift (wpAny_rule ⟨rfl, ?_⟩))
        refine wpS_bind (H.insert (Nat.le_refl _) m2 m1 hB2 hs fun st3 hB3 hs3 => ?_)
        simp only [Bool.not_true, Bool.false_eq_true, if_false]
        refine wpS_bind (wpS_get ?_)
        rw [show (pendingOf st3).back? = none from by rw [hB3.pend]; rfl]
        exact wpS_bind (wpS_modify (wpS_pure (.inr ⟨Nat.le_refl 1, rfl, last _ hB3 hs3⟩)))
      · rw [if_neg c]
        obtain rfl : m = a₀.size := by exact ar28 m2 c
        refine wpS_bind (wpS_get ?_)
        rw [show (pendingOf st2).back? = none from by rw [hB2.pend]; rfl]
        exact wpS_bind (wpS_modify (wpS_pure (.inr ⟨Nat.le_refl 1, by rw [Nat.zero_add], last _ hB2 hs⟩)))
    · dsimp only
      rw [if_pos (Nat.le_refl _)]
      exact wpS_pure ⟨rfl, hD⟩
  · rintro c st' (⟨hx, _, _⟩ | ⟨_, hc, hD⟩)
    · lia
    · exact ⟨hc, hD⟩
  · rintro c st' ⟨rfl, hD⟩
    dsimp only
    refine wpS_bind (wpS_mono (wpS_forRange (I := fun zz c st2 => st2 = st' ∧ c = (none, ())) (Q := fun c st2 => st2 = st' ∧ c = (none, ())) ?_ (fun zz zz q => q) ⟨rfl, rfl⟩) ?_)
    · rintro x c st2 _ _ ⟨rfl, rfl⟩
      refine wpS_bind (wpS_get ?_)
      rw [if_pos (by rw [hD.pend]; exact Nat.le_refl 1)]
      exact wpS_pure ⟨rfl, rfl⟩
    · rintro c st2 ⟨rfl, rfl⟩
      exact wpS_pure (h _ hD)
end
end
section
open PySem.SeqAt
open Classical
section
variable {prog : Program} {w : World} {A : Around} {E : Value → Shared → Prop} {s : Shared} {π : List Addr} {φ : PMap}
theorem one_list (hφ : ∀ a o, φ a = some o → s.heap.get? a = some o) {v u : Value} {a b : List (List Nat)} (h1 : V π φ v (strsD a)) (h2 : V π φ u (strsD b)) (hu : A.units < cLine) {Q : Bool → Shared → Prop} (h : Q (ltL a b) s) : wpAny (model prog w) A (oneLt' true v u) Q E s := by
  obtain ⟨l, vs, n, rfl, hl, ra⟩ := h1.listE
  obtain ⟨m, us, n', rfl, hm, rb⟩ := h2.listE
  have e1 := vsize ra
  have e2 := vsize rb
  rw [List.length_map] at e1 e2
  have T1 : s.TypeIs (.ref l) "list" := ⟨_, hφ _ _ hl, rfl⟩
  rw [oneLt'_eq]
  simp only [if_true]
  refine wpAny_bind (wpAny_cRoomFor hu ?_)
  refine wpAny_bind (wpAny_callSpecialIfBound?_slot T1 F.slot_list_lt (call_meets F.slot_list_lt T1 F.entry_list_lt (F.args_list_lt_2 _ _) (lt_listAt l m vs us n n' none none #[] #[] (fun j => decide (a[j]? = b[j]?)) (fun j => ltN (a.getD j []) (b.getD j [])))
    ⟨hφ _ _ hl, hφ _ _ hm, fun j h1 h2 => ?_, fun j h1 h2 zz => ?_, ?_⟩))
  · obtain ⟨x, t, ex, hx⟩ := strsAt ra h1
    obtain ⟨y, t', ey, hy⟩ := strsAt rb h2
    rw [ex, ey, hx, hy]
    refine eqCast (EqAt.str_str x t y t') ?_
    rw [← PyProof.Rows.toList_beq, Bool.eq_iff_iff, beq_iff_eq, decide_eq_true_eq, Option.some.injEq]
  · obtain ⟨x, t, ex, hx⟩ := strsAt ra h1
    obtain ⟨y, t', ey, hy⟩ := strsAt rb h2
    rw [ex, ey]
    refine (CmpAt.lt_str x t y t').cast ?_
    rw [List.getD_eq_getElem?_getD, List.getD_eq_getElem?_getD, hx, hy]; rfl
  · rw [e1, e2, lexN_drop a b _ (fun zz => rfl) _ (fun zz => rfl) _ 0 (by simp +arith) (by exact Nat.zero_le _)]
    exact wpAny_truthy_bool h
end
end
section
open Classical
section
variable {α : Type}
structure Strict (lt : α → α → Prop) : Prop where
  irr : ∀ a, ¬ lt a a
  tr : ∀ {a b c}, lt a b → lt b c → lt a c
  tri : ∀ a b, lt a b ∨ a = b ∨ lt b a
structure Lex (lt : α → α → Prop) (f : List α → List α → Bool) : Prop where
  nn : f [] [] = false
  nc : ∀ b q, f [] (b :: q) = true
  cn : ∀ a r, f (a :: r) [] = false
  cc : ∀ a r b q, f (a :: r) (b :: q) = true ↔ (a = b ∧ f r q = true) ∨ (a ≠ b ∧ lt a b)
theorem Lex.strict {lt : α → α → Prop} {f : List α → List α → Bool} (L : Lex lt f) (S : Strict lt) : Strict fun a b => f a b = true where
  irr := fun a => by
    induction a with
    | nil => rw [L.nn]; exact Bool.false_ne_true
    | cons a r ih => rw [L.cc]; exact fun q => q.elim (fun q => ih q.2) fun q => q.1 rfl
  tr := fun {a} => by
    induction a with
    | nil =>
      intro b c h1 h2
      cases c with
      | nil => cases b with
        | nil => exact h2
        | cons => rw [L.cn] at h2; exact ff_tt h2
      | cons => exact L.nc _ _
    | cons a r ih =>
      intro b c h1 h2
      cases b with
      | nil => rw [L.cn] at h1; exact ff_tt h1
      | cons b q => cases c with
        | nil => rw [L.cn] at h2; exact ff_tt h2
        | cons c t =>
          rw [L.cc] at h1 h2 ⊢
          rcases h1 with ⟨e1, h1⟩ | ⟨n1, h1⟩ <;> rcases h2 with ⟨e2, h2⟩ | ⟨n2, h2⟩
          · exact .inl ⟨e1.trans e2, ih h1 h2⟩
          · exact .inr ⟨e1 ▸ n2, e1 ▸ h2⟩
          · exact .inr ⟨e2 ▸ n1, e2 ▸ h1⟩
          · have := S.tr h1 h2
            exact .inr ⟨fun e => S.irr a (by rw [← e] at this; exact this), this⟩
  tri := fun a => by
    induction a with
    | nil => intro b; cases b with
      | nil => exact .inr (.inl rfl)
      | cons => exact .inl (L.nc _ _)
    | cons a r ih =>
      intro b
      cases b with
      | nil => exact .inr (.inr (L.nc _ _))
      | cons b q =>
        by_cases e : a = b
        · subst e
          rcases ih q with h | h | h
          · exact .inl ((L.cc _ _ _ _).mpr (.inl ⟨rfl, h⟩))
          · exact .inr (.inl (by rw [h]))
          · exact .inr (.inr ((L.cc _ _ _ _).mpr (.inl ⟨rfl, h⟩)))
        · rcases S.tri a b with h | h | h
          · exact .inl ((L.cc _ _ _ _).mpr (.inr ⟨e, h⟩))
          · exact absurd h e
          · exact .inr (.inr ((L.cc _ _ _ _).mpr (.inr ⟨Ne.symm e, h⟩)))
theorem Strict.uniq {lt : α → α → Prop} (S : Strict lt) : ∀ {a b : List α}, a.Pairwise lt → b.Pairwise lt → (∀ x, x ∈ a ↔ x ∈ b) → a = b
  | [], [], _, _, _ => rfl
  | [], y :: _, _, _, h => nomatch (h y).mpr (.head _)
  | x :: _, [], _, _, h => nomatch (h x).mp (.head _)
  | x :: a, y :: b, pa, pb, h => by
    rw [List.pairwise_cons] at pa pb
    have e : x = y := by
      rcases List.mem_cons.mp ((h x).mp (.head _)) with e | m
      · exact e
      rcases List.mem_cons.mp ((h y).mpr (.head _)) with e | m'
      · exact e.symm
      · exact absurd (S.tr (pa.1 y m') (pb.1 x m)) (S.irr x)
    subst e
    rw [S.uniq pa.2 pb.2 fun z => ?_]
    constructor
    · intro m
      rcases List.mem_cons.mp ((h z).mp (.tail _ m)) with e | m'
      · subst e; exact absurd (pa.1 z m) (S.irr z)
      · exact m'
    · intro m
      rcases List.mem_cons.mp ((h z).mpr (.tail _ m)) with e | m'
      · subst e; exact absurd (pb.1 z m) (S.irr z)
      · exact m'
theorem Strict.le_tr {lt : α → α → Prop} (S : Strict lt) {a b c : α} (h1 : ¬ lt b a) (h2 : ¬ lt c b) : ¬ lt c a := fun h => by
  rcases S.tri b c with q | q | q
  · exact h1 (S.tr q h)
  · subst q; exact h1 h
  · exact h2 q
theorem Strict.asym {lt : α → α → Prop} (S : Strict lt) {a b : α} (h : lt a b) : ¬ lt b a := fun q => S.irr a (S.tr h q)
end
theorem natStrict : Strict fun a b : Nat => a < b := ⟨Nat.lt_irrefl, Nat.lt_trans, Nat.lt_trichotomy⟩
theorem if_cc {α : Type} [DecidableEq α] {a b : α} {x y : Bool} {p : Prop} (h : y = true ↔ p) : (if a = b then x else y) = true ↔ (a = b ∧ x = true) ∨ (a ≠ b ∧ p) := by
  by_cases e : a = b
  · rw [if_pos e]; exact ⟨fun q => .inl ⟨e, q⟩, fun q => q.elim And.right fun q => absurd e q.1⟩
  · rw [if_neg e, h]; exact ⟨fun q => .inr ⟨e, q⟩, fun q => q.elim (fun q => absurd q.1 e) And.right⟩
theorem ltN_strict : Strict fun a b => ltN a b = true := Lex.strict ⟨rfl, fun zz zz => rfl, fun zz zz => rfl, fun zz zz zz zz => if_cc decide_eq_true_iff⟩ natStrict
theorem ltL_strict : Strict fun a b => ltL a b = true := Lex.strict ⟨rfl, fun zz zz => rfl, fun zz zz => rfl, fun zz zz zz zz => if_cc Iff.rfl⟩ ltN_strict
end
section
open PySem.SeqAt
open Classical
section
variable {prog : Program} {w : World} {A : Around} {E : Value → Shared → Prop} {s : Shared} {π : List Addr} {φ : PMap}
noncomputable def rowKey (π : List Addr) (φ : PMap) (v : Value) : Option (List (List Nat)) := if h : ∃ n, V π φ v (strsD n) then some (Classical.choose h) else none
theorem rowKey_of {v : Value} {n : List (List Nat)} (h : V π φ v (strsD n)) : rowKey π φ v = some n := by
  have hx : ∃ n, V π φ v (strsD n) := ⟨n, h⟩
  unfold rowKey
  rw [dif_pos hx]
  have := V.one (.list .str) v _ _ (has_strs _) (has_strs n) (Classical.choose_spec hx) h
  rw [strsD_inj.mp this]
theorem rowKey_at {v : Value} {n : List (List Nat)} (h : rowKey π φ v = some n) : V π φ v (strsD n) := by
  unfold rowKey at h
  by_cases hx : ∃ n, V π φ v (strsD n)
  · rw [dif_pos hx] at h; cases h; exact Classical.choose_spec hx
  · rw [dif_neg hx] at h; exact nosome h
noncomputable def rowKind (π : List Addr) (φ : PMap) : KeyKind where
  α := List (List Nat)
  blt a b := ltL a b
  irrefl a := Bool.eq_false_iff.mpr (ltL_strict.irr a)
  trans a b c h1 h2 := ltL_strict.tr h1 h2
  negTrans a b c h := by
    rcases ltL_strict.tri a b with q | q | q
    · exact .inl q
    · subst q; exact .inr h
    · exact .inr (ltL_strict.tr q h)
  total a b h1 h2 := by
    rcases ltL_strict.tri a b with q | q | q
    · rw [q] at h1; cases h1
    · exact q
    · rw [q] at h2; cases h2
  keyOf := rowKey π φ
  dflt := []
theorem row_here (hφ : ∀ a o, φ a = some o → s.heap.get? a = some o) (hu : A.units < cLine) : LtHere prog w A s (rowKind π φ) := fun E x y a b Q ha hb h => one_list hφ (rowKey_at ha) (rowKey_at hb) hu h
end
end
section
open PySem.SeqAt
section
variable {prog : Program} {w : World} {A : Around} {E : Value → Shared → Prop} {s : Shared} {κ : KeyKind}
theorem sort_here {a : Addr} {vs : List Value} {n : Nat} {P : PySem.Fin → Shared → Prop} (ho : s.heap.get? a = some (seqObj "list" vs.toArray n)) (h0 : KeysOf κ (pairsOf vs)) (hkk : ∀ v₁ v₂ rest, vs = v₁ :: v₂ :: rest → ∀ s' : Shared, (∀ b o, b ≠ a → s.heap.get? b = some o → s'.heap.get? b = some o) → ∀ Q : SortKind → Shared → Prop, Q oneType' s' → wpAny (model prog w) A (keyKind' (v₁ :: v₂ :: rest).toArray) Q E s')
    (h64 : vs.length < 64) (hlt : ∀ s' : Shared, (∀ b o, b ≠ a → s.heap.get? b = some o → s'.heap.get? b = some o) → LtHere prog w A s' κ)
    (h : ∀ st' : SortSt, (arrOf st').Perm (pairsOf vs) → SortedToK κ (arrOf st') (pairsOf vs).size → P (.done (.ret .none)) { s with heap := sortedHeap s.heap a vs ((arrOf st').map (·.2)) }) :
    wpAny (model prog w) A (Builtin.«list.sort» ⟨[.ref a], []⟩) P E s := by
  rw [list_sort_plain]
  have ha : a < s.heap.objs.size := Heap.lt_size ho
  refine wpAny_bind (listItems_at ho rfl ?_)
  refine wpAny_bind (listUpdate_at ho rfl ?_)
  obtain ⟨e1, ho1⟩ : ∃ e1, (s.heap.update a (Obj.mapSeq fun zz => #[])).get? a = some (seqObj "list" #[] e1) := ⟨_, get?_update_seq ho (fun zz => #[])⟩
  refine wpAny_bind (seqEpoch_at ho1 rfl ?_)
  refine wpAny_bind (wpAny_newTuple ?_)
  refine wpAny_bind (wpAny_newList ?_)
  refine wpAny_holding ?_
  have ho6 : (((s.heap.update a (Obj.mapSeq fun zz => #[])).push (seqObj "tuple" vs.toArray 0)).push (seqObj "list" #[] 0)).get? a = some (seqObj "list" #[] e1) := by
    rw [Heap.get?_push_ne _ _ _ (by rw [size_push', Heap.size_update]; exact Nat.ne_of_lt (Nat.lt_succ_of_lt ha)), Heap.get?_push_ne _ _ _ (by rw [Heap.size_update]; exact Nat.ne_of_lt ha)]
    exact ho1
  have kp : ∀ b o, b ≠ a → s.heap.get? b = some o → (((s.heap.update a (Obj.mapSeq fun zz => #[])).push (seqObj "tuple" vs.toArray 0)).push (seqObj "list" #[] 0)).get? b = some o := fun b o q e =>
    Heap.get?_push_of_some _ (Heap.get?_push_of_some _ ((Heap.get?_update_other _ _ (Ne.symm q)).trans e))
  show wpAny (model prog w) A _ P E { s with heap := ((s.heap.update a (Obj.mapSeq fun zz => #[])).push (seqObj "tuple" vs.toArray 0)).push (seqObj "list" #[] 0) }
  dsimp only
  have hsz : vs.toArray.size = vs.length := by simp
  by_cases h2 : vs.toArray.size < 2
  · rw [if_pos h2, if_pos h2]
    refine wpAny_bind (wpAny_pure ?_)
    rw [StateT.run_pure]
    refine wpAny_bind (wpAny_pure ?_)
    dsimp only
    refine wpAny_bind (seqEpoch_at ho6 rfl ?_)
    refine wpAny_bind (listUpdate_at ho6 rfl ?_ (hsz2 := by rw [Array.size_map]; show (pairsOf vs).size ≤ _; rw [pairsOf_size, sizeLine_eq]; exact ar3 hsz h2))
    simp only [bne_self_eq_false, Bool.false_eq_true, if_false]
    refine wpAny_pure (h (SortSt.mk' general' (vs.toArray.zip vs.toArray) #[] 7 none) (Array.Perm.refl _) fun i j hij hj => ?_)
    have : i = j := by rw [pairsOf_size] at hj; exact ar4 hsz h2 hij hj
    subst this; exact KeyOrd.kle_refl _
  rw [if_neg h2, if_neg h2]
  obtain ⟨v₁, v₂, rest, rfl⟩ : ∃ v₁ v₂ rest, vs = v₁ :: v₂ :: rest := by
    match vs, hsz, h2 with
    | [], _, h2 => exact absurd (by decide) h2
    | [_], _, h2 => exact absurd (Nat.lt_succ_self 1) h2
    | v₁ :: v₂ :: rest, _, _ => exact ⟨v₁, v₂, rest, rfl⟩
  refine wpAny_bind (hkk _ _ _ rfl _ kp _ ?_)
  have S : Srt prog w A { s with heap := ((s.heap.update a (Obj.mapSeq fun zz => #[])).push (seqObj "tuple" (v₁ :: v₂ :: rest).toArray 0)).push (seqObj "list" #[] 0) } κ (pairsOf (v₁ :: v₂ :: rest)) := ⟨hlt _ kp, h0⟩
  refine wpAny_bind (wpAny_mono (S.runs (st := SortSt.mk' oneType' ((v₁ :: v₂ :: rest).toArray.zip (v₁ :: v₂ :: rest).toArray) #[] 7 none) (Q := fun zz st' => Done κ (pairsOf (v₁ :: v₂ :: rest)) st') ⟨Array.Perm.refl _, rfl, rfl, rfl⟩ (by rw [pairsOf_size]; simp) (by rw [pairsOf_size]; exact h64) fun st' d => d) ?_ fun zz zz e => e)
  rintro ⟨⟨⟩, st'⟩ s' ⟨rfl, d⟩
  dsimp only
  refine wpAny_bind (seqEpoch_at ho6 rfl ?_)
  refine wpAny_bind (listUpdate_at ho6 rfl ?_ (hsz2 := by refine Nat.le_trans (Nat.le_of_eq ((Array.size_map ..).trans (d.perm.size_eq.trans (pairsOf_size _)))) ?_; rw [sizeLine_eq]; exact ar5 h64))
  rw [d.ok]
  simp only [bne_self_eq_false, Bool.false_eq_true, if_false]
  exact wpAny_pure (h st' d.perm d.ord)
end
end
section
open PySem.SeqAt
section
variable {prog : Program} {w : World} {A : Around} {E : Value → Shared → Prop} {s : Shared} {κ : KeyKind}
theorem sorted_here {l : Addr} {vs : List Value} {Q : Value → Shared → Prop} (hl : s.heap.IsList l vs.toArray) (h0 : KeysOf κ (pairsOf vs)) (h64 : vs.length < 64)
    (hkk : ∀ v₁ v₂ rest, vs = v₁ :: v₂ :: rest → ∀ (A' : Around) (E' : Value → Shared → Prop) (s' : Shared), (∀ b o, s.heap.get? b = some o → s'.heap.get? b = some o) → ∀ Q : SortKind → Shared → Prop, Q oneType' s' → wpAny (model prog w) A' (keyKind' (v₁ :: v₂ :: rest).toArray) Q E' s')
    (hlt : ∀ (A' : Around) (s' : Shared), A'.units ≤ A.units + 100 → (∀ b o, s.heap.get? b = some o → s'.heap.get? b = some o) → LtHere prog w A' s' κ)
    (h : ∀ st' : SortSt, (arrOf st').Perm (pairsOf vs) → SortedToK κ (arrOf st') (pairsOf vs).size → Q (.ref (s.heap.objs.size + 1)) { s with heap := sortedAll s.heap vs ((arrOf st').map (·.2)) }) :
    wpAny (model prog w) A (call (.builtin "sorted") [.ref l]) Q E s := by
  refine Calls.call_function_entry kind_sorted plain_sorted entry_sorted (args_sorted1 _) ?_
  unfold Builtin.«sorted»
  refine wpAny_bind (m := checkCount "sorted" 1 1 _) (wpAny_pure ?_)
  refine wpAny_bind (collect_list hl ?_)
  refine wpAny_bind (wpAny_newList ?_)
  have hsz : ((s.heap.push (seqObj "list" #[] 0)).update s.heap.objs.size (Obj.mapSeq (· ++ vs.toArray))).objs.size = s.heap.objs.size + 1 := by
    rw [Heap.size_update, size_push']
  have hoL : (((s.heap.push (seqObj "list" #[] 0)).update s.heap.objs.size (Obj.mapSeq (· ++ vs.toArray))).push (seqObj "list" vs.toArray 0)).get? (s.heap.objs.size + 1) = some (seqObj "list" vs.toArray 0) := by
    rw [← hsz]; exact Heap.get?_push_size _ rfl
  have kp : ∀ b o, s.heap.get? b = some o → b ≠ s.heap.objs.size + 1 ∧ (((s.heap.push (seqObj "list" #[] 0)).update s.heap.objs.size (Obj.mapSeq (· ++ vs.toArray))).push (seqObj "list" vs.toArray 0)).get? b = some o := fun b o e =>
    ⟨Nat.ne_of_lt (Nat.lt_succ_of_lt (Heap.lt_size e)), Heap.get?_push_of_some _ ((Heap.get?_update_other _ _ (Nat.ne_of_gt (Heap.lt_size e))).trans (Heap.get?_push_of_some _ e))⟩
  show wpAny _ _ _ _ _ { s with heap := ((s.heap.push (seqObj "list" #[] 0)).update s.heap.objs.size (Obj.mapSeq (· ++ vs.toArray))).push (seqObj "list" vs.toArray 0) }
  rw [hsz]
  refine wpAny_bind (wpAny_holding (wpAny_call_entry slot_list_sort ⟨_, hoL, rfl⟩ entry_list_sort (sort_here (κ := κ) hoL h0 (fun v₁ v₂ rest e s' k Q q => hkk v₁ v₂ rest e _ _ s' (fun b o e => k b o (kp b o e).1 (kp b o e).2) Q q) h64 (fun s' k => hlt _ s' (by show A.units + 1 + 1 ≤ A.units + 100; simp +arith) fun b o e => k b o (kp b o e).1 (kp b o e).2) fun st' a1 a2 => ⟨_, rfl, ?_⟩) (args_list_sort _)))
  exact wpAny_pure ⟨_, rfl, h st' a1 a2⟩
end
end
section
open PySem.SeqAt
open Classical
section
variable {M : Model} {A : Around} {E : Value → Shared → Prop} {s : Shared} {π : List Addr} {φ : PMap}
theorem first_eq (v : Value) : firstOfTuple' v = (typeOf v >>= fun t => if (t != .type "tuple") = true then pure none else Builtin.List.listItems v >>= fun a => pure a[0]?) := rfl
theorem first_rows : ∀ {vs : List Value} {Q : List (Option Value) → Shared → Prop}, (∀ v ∈ vs, s.TypeIs v "list") → Q (vs.map fun zz => none) s → wpAny M A (vs.mapM firstOfTuple') Q E s
  | [], Q, _, h => by rw [List.mapM_nil]; exact wpAny_pure h
  | v :: vs, Q, ht, h => by
    rw [List.mapM_cons, first_eq]
    refine wpAny_bind (wpAny_bind (wpAny_typeOf (ht v (.head _)) ?_))
    exact wpAny_pure (wpAny_bind (first_rows (fun u q => ht u (.tail _ q)) (wpAny_pure h)))
theorem type_rows : ∀ {vs : List Value} {Q : List Value → Shared → Prop}, (∀ v ∈ vs, s.TypeIs v "list") → Q (vs.map fun zz => .type "list") s → wpAny M A (vs.mapM typeOf) Q E s
  | [], Q, _, h => by rw [List.mapM_nil]; exact wpAny_pure h
  | v :: vs, Q, ht, h => by
    rw [List.mapM_cons]
    exact wpAny_bind (wpAny_typeOf (ht v (.head _)) (wpAny_bind (type_rows (fun u q => ht u (.tail _ q)) (wpAny_pure h))))
theorem kind_rows {v : Value} {vs : List Value} {Q : SortKind → Shared → Prop} (ht : ∀ u ∈ v :: vs, s.TypeIs u "list") (h : Q oneType' s) : wpAny M A (keyKind' (v :: vs).toArray) Q E s := by
  rw [keyKind'_eq, List.mapM_toArray]
  refine wpAny_bind (wpAny_map (first_rows ht ?_))
  rw [if_neg (by simp), if_neg (by simp), oneTypeOnly'_eq, List.mapM_toArray]
  refine wpAny_bind (wpAny_bind (wpAny_map (type_rows ht ?_)))
  have hall : ((List.map (fun zz => Value.type "list") (v :: vs)).toArray.all fun x => x == Value.type "list") = true := by
    simp only [List.all_toArray, List.all_map, List.all_eq_true]
    intro _ _; rfl
  rw [show (List.map (fun zz => Value.type "list") (v :: vs)).toArray[0]? = some (Value.type "list") by simp]
  dsimp only
  rw [hall]
  exact wpAny_pure (wpAny_pure h)
theorem Vs.mem : ∀ {vs : List Value} {ds : List D} {v : Value}, Vs π φ vs ds → v ∈ vs → ∃ d ∈ ds, V π φ v d
  | _, _, _, .cons hv r, h => by
    rcases List.mem_cons.mp h with rfl | h
    · exact ⟨_, .head _, hv⟩
    · obtain ⟨d, m, q⟩ := Vs.mem r h
      exact ⟨d, .tail _ m, q⟩
theorem rowKeys : ∀ {vs : List Value} {ns : List (List (List Nat))}, Vs π φ vs (ns.map strsD) → vs.map (fun v => (rowKey π φ v).getD []) = ns
  | [], [], _ => rfl
  | _ :: _, _ :: _, .cons hv r => by rw [List.map_cons, rowKey_of hv, rowKeys r]; rfl
theorem vsRows : ∀ (vs : List Value), (∀ v ∈ vs, ∃ n, V π φ v (strsD n)) → Vs π φ vs ((vs.map fun v => (rowKey π φ v).getD []).map strsD)
  | [], _ => .nil
  | v :: vs, h => by
    obtain ⟨n, q⟩ := h v (.head _)
    refine .cons ?_ (vsRows vs fun u m => h u (.tail _ m))
    dsimp only
    rw [rowKey_of q]; exact q
end
section
variable {G : GG} {F : Fm} {k : Nat} {ρ : Rho} {μ : Mu} {W : Wd} {s : Shared} {A : Around}
theorem listDE {d : D} {K : List D → Prop} (h : listD d μ K) (r : Rel G F W ρ μ s) {v : Value} (hv : V W.π W.φ v d) : ∃ l a vs n, v = .ref a ∧ s.heap.get? a = some (listO vs n) ∧ Vs W.π W.φ vs.toList l ∧ K l := by
  cases d with
  | list l =>
    obtain ⟨a, vs, n, e, h1, h2⟩ := hv.listE
    exact ⟨l, a, vs, n, e, r.wr.φ _ _ h1, h2, h⟩
  | «mut» i =>
    obtain ⟨l, hl, h⟩ := getMuE h
    obtain ⟨a, vs, n, e, _, h1, _, h2⟩ := r.mutE hv hl
    exact ⟨l, a, vs, n, e, h1, h2, h⟩
  | _ => exact h.elim
theorem bi_sorted {ds : List D} {Q : D → Rho → Mu → Prop} {X} (h : one ds fun d => listD d μ fun l => vcSorted l fun d => Q d ρ μ) : OpN G F k RV (bcall (.builtin "sorted")) ds ρ μ Q X := fun W A s vs a r hvs => by
  obtain ⟨d, rfl, h⟩ := oneE h
  obtain ⟨v, rfl, hv⟩ := hvs.one
  obtain ⟨l, b, us, n, rfl, hl, rl, ns, rfl, h64, hn, h⟩ := listDE h r hv
  have row : ∀ u ∈ us.toList, ∃ n, V W.π W.φ u (strsD n) := fun u m => by
    obtain ⟨d, md, q⟩ := rl.mem m
    obtain ⟨n, _, rfl⟩ := List.mem_map.mp md
    exact ⟨n, q⟩
  have hz : us.toList.length < 64 := by rw [rl.length, List.length_map]; exact h64
  have hu : A.units + 100 < cLine := by have := a.u; have := cl; exact ar6 ‹_› this
  refine sorted_here (κ := rowKind W.π W.φ) (vs := us.toList) ⟨_, hl, rfl, n, rfl⟩ (fun p hp => ?_) hz (fun v₁ v₂ rest e A' E' s' kp Q q => kind_rows (fun u m => ?_) q) (fun A' s' hA kp => row_here (fun b o e => kp b o (r.wr.φ b o e)) (Nat.lt_of_le_of_lt hA hu)) fun st' hp hs => ?_
  · rw [pairsOf_toList] at hp
    obtain ⟨n, q⟩ := row _ (mem_zip_self hp).2
    exact ⟨n, rowKey_of q⟩
  · rw [← e] at m
    obtain ⟨n, q⟩ := row u m
    obtain ⟨c, ws, n, rfl, h1, _⟩ := q.listE
    exact ⟨_, kp _ _ (r.wr.φ _ _ h1), rfl⟩
  · have hl' : (arrOf st').toList.Perm (us.toList.zip us.toList) := by rw [← pairsOf_toList]; exact Array.perm_iff_toList_perm.mp hp
    have hmem : ∀ p, p ∈ (arrOf st').toList → p.1 = p.2 ∧ p.1 ∈ us.toList := fun p hp' => mem_zip_self (hl'.mem_iff.mp hp')
    obtain ⟨e, he⟩ := sortedAll_at s.heap us.toList ((arrOf st').map (·.2))
    have hnone : s.heap.get? (s.heap.objs.size + 1) = none := by
      unfold Heap.get?
      rw [Array.getElem?_eq_none_iff.mpr (Nat.le_succ _)]
    obtain ⟨r', le⟩ := r.freeze (t := s.toks) (fun b o => sortedAll_old) hnone he
    have e1 : ((arrOf st').map (·.2)).toList = (arrOf st').toList.map (·.1) := by
      rw [Array.toList_map]; exact List.map_congr_left fun p hp' => (hmem p hp').1.symm
    have hr : Vs W.π W.φ ((arrOf st').map (·.2)).toList (((arrOf st').toList.map fun p => (rowKey W.π W.φ p.1).getD []).map strsD) := by
      rw [e1]
      rw [show (arrOf st').toList.map (fun p => (rowKey W.π W.φ p.1).getD []) = ((arrOf st').toList.map (·.1)).map fun v => (rowKey W.π W.φ v).getD [] by rw [List.map_map]; rfl]
      refine vsRows _ fun v m => ?_
      obtain ⟨p, hp', rfl⟩ := List.mem_map.mp m
      exact row _ (hmem p hp').2
    refine PQ.up le (.val r' (.list (PMap.set_at _ _ _) ?_ (hr.up le)) (h _ ?_ ?_))
    · rw [Array.size_map, hp.size_eq, pairsOf_size]; exact Nat.le_trans (Nat.le_of_lt hz) (by decide)
    · have := hl'.map fun p => (rowKey W.π W.φ p.1).getD []
      rwa [show (us.toList.zip us.toList).map (fun p => (rowKey W.π W.φ p.1).getD []) = ns by
        rw [show (us.toList.zip us.toList).map (fun p => (rowKey W.π W.φ p.1).getD []) = ((us.toList.zip us.toList).map Prod.fst).map fun v => (rowKey W.π W.φ v).getD [] by rw [List.map_map]; rfl, List.map_fst_zip (Nat.le_refl _), rowKeys rl]] at this
    · rw [List.pairwise_iff_getElem]
      intro i j hi hj hij
      rw [List.length_map] at hi hj
      have h1 := hs i j (Nat.le_of_lt hij) (by rw [← hp.size_eq]; exact hj)
      have at' : ∀ (i : Nat) (hi : i < (arrOf st').toList.length), KK (rowKind W.π W.φ) (arrOf st') i = (rowKey W.π W.φ (arrOf st').toList[i].1).getD [] := fun i hi => by
        unfold KK
        rw [← Array.getElem?_toList, List.getElem?_eq_getElem hi]; rfl
      rw [at' i hi, at' j hj] at h1
      rw [List.getElem_map, List.getElem_map]
      exact h1
end
end
section
section
variable {prog : Program} {w : World} {A : Around} {E : Value → Shared → Prop} {s : Shared}
structure Two (A : Around) (s : Shared) (op : CmpOp) (l : Addr) (us : Array Value) (x y : Value) (b : Bool) : Prop where
  hA : A.handled = none
  hl : s.heap.IsList l us
  h0 : us[0]? = some x
  h1 : us[1]? = some y
  hz : us.size = 2
  cmp : ∀ s' : Shared, (∀ a o, s.heap.get? a = some o → s'.heap.get? a = some o) → CmpAt op A.in1 s' y x b
noncomputable abbrev seqL (xs : Array Value) (c : Nat) : Obj := { cls := .type "list", dict := none, data := .seq xs c, slots := #[] }
structure PhB (f : Builtin) : Prop
noncomputable def getB1 {f : String → Builtin} {a : String} (h : PhB (f a)) : String → Builtin := f
noncomputable def getB2 {f : String → CmpOp → Builtin} {a : String} {o : CmpOp} (h : PhB (f a o)) : String → CmpOp → Builtin := f
noncomputable def mm : String → Builtin := by
  have h : PhB Builtin.«min» := ⟨⟩
  unfold Builtin.«min» at h
  exact getB1 h
noncomputable def mml : String → CmpOp → Builtin := by
  have h : PhB Builtin.«min.loop» := ⟨⟩
  unfold Builtin.«min.loop» at h
  exact getB2 h
theorem ext_two {nm : String} {op : CmpOp} (hk : builtinKind nm = none) (hp : plainId nm = true) (he : entryFor table nm = some (mm nm)) (ha : ∀ a, argsOk nm ⟨[a], []⟩) (hpl : plainId (toString nm ++ toString ".loop") = true) (hel : entryFor table (toString nm ++ toString ".loop") = some (mml nm op)) {l : Addr} {us : Array Value} {x y : Value} {b : Bool} {Q : Value → Shared → Prop} (T : Two A s op l us x y b) (hQ : ∀ h', (∀ a o, s.heap.get? a = some o → h'.get? a = some o) → Q (if b = true then y else x) { s with heap := h' }) :
    wpAny (model prog w) A (call (.builtin nm) [.ref l]) Q E s := by
  refine call_function_tree hk hp he (ha _) ?_
  show wpAny _ A.in1 (Builtin.Builtins.bindParams nm ["key", "default"] 0 ⟨[], []⟩ >>= _) _ _ s
  refine wpAny_bind (wpAny_of_eq (show Builtin.Builtins.bindParams nm ["key", "default"] 0 ⟨[], []⟩ = pure [none, none] from rfl) ?_)
  refine wpAny_bind (wpAny_pure ?_)
  refine wpAny_bind (wpAny_pyIter_list T.hl ?_)
  refine wpAny_bind (wpAny_newObj_type ?_)
  obtain ⟨ol, hol, _⟩ := id T.hl
  have hI : ((s.heap.push { cls := .type "list_iterator", data := .fields #[.ref l, .int 0 0] }).push (seqL #[] 0)).IsListIter s.heap.objs.size l 0 := ⟨_, Heap.get?_push_of_some _ (Heap.get?_push_size _ rfl), rfl, rfl⟩
  have hS : ((s.heap.push { cls := .type "list_iterator", data := .fields #[.ref l, .int 0 0] }).push (seqL #[] 0)).get? (s.heap.push { cls := .type "list_iterator", data := .fields #[.ref l, .int 0 0] }).objs.size = some (seqL #[] 0) := Heap.get?_push_size _ rfl
  have kp : ∀ a o, s.heap.get? a = some o → ((s.heap.push { cls := .type "list_iterator", data := .fields #[.ref l, .int 0 0] }).push (seqL #[] 0)).get? a = some o := fun a o e => Heap.get?_push_of_some _ (Heap.get?_push_of_some _ e)
  have nI : ∀ a o, s.heap.get? a = some o → a ≠ s.heap.objs.size := fun a o e => Nat.ne_of_lt (Heap.lt_size e)
  have nS : ∀ a o, s.heap.get? a = some o → a ≠ (s.heap.push { cls := .type "list_iterator", data := .fields #[.ref l, .int 0 0] }).objs.size := fun a o e => by rw [Heap.size_push]; exact Nat.ne_of_lt (Nat.lt_succ_of_lt (Heap.lt_size e))
  have hIS : s.heap.objs.size ≠ (s.heap.push { cls := .type "list_iterator", data := .fields #[.ref l, .int 0 0] }).objs.size := by rw [Heap.size_push]; exact Nat.ne_of_lt (Nat.lt_succ_self _)
  revert hI hS kp nS hIS
  generalize (s.heap.push { cls := .type "list_iterator", data := .fields #[.ref l, .int 0 0] }).objs.size = S
  generalize (s.heap.push { cls := .type "list_iterator", data := .fields #[.ref l, .int 0 0] }).push (seqL #[] 0) = H0
  generalize s.heap.objs.size = I at nI ⊢
  intro hI hS kp nS hIS
  have hlI := nI l _ hol
  have hlS := nS l _ hol
  have hl0 : H0.IsList l us := by obtain ⟨o, h, r⟩ := T.hl; exact ⟨o, kp _ _ h, r⟩
  refine wpAny_pure ⟨plainId_quiet hpl _, ?_⟩
  refine codeAny_builtin hel ?_
  rw [Around.under_plainId hpl _]
  show wpAny _ A.in1 (seqItems? (.ref S) >>= _) _ _ _
  refine wpAny_bind (wpAny_seqItems hS rfl ?_)
  show wpAny _ A.in1 (tryCatch (pyNext (.ref I)) _ >>= _) _ _ _
  refine wpAny_bind (wpAny_tryCatch (wpAny_pyNext_list_item hI hl0 T.h0 fun h1 hI1 s1 => ?_))
  have hS1 : h1.get? S = some (seqL #[] 0) := (s1.2 S hIS.symm).trans hS
  show wpAny _ A.in1 (updateSeq S (fun zz => #[x, x]) >>= _) _ _ _
  refine wpAny_bind ?_
  refine wpAny_updateSeq hS1 rfl ?_
  have hS2 : (h1.update S (Obj.mapSeq fun zz => #[x, x])).get? S = some (seqL #[x, x] _) := Heap.get?_update_self _ hS1 rfl
  have sS : Heap.SameBut S h1 (h1.update S (Obj.mapSeq fun zz => #[x, x])) := Heap.SameBut.update ..
  have hl1 := (hl0.extBut s1.extBut hlI).extBut sS.extBut hlS
  have hI2 := hI1.extBut sS.extBut hIS
  have kp2 : ∀ a o, s.heap.get? a = some o → (h1.update S (Obj.mapSeq fun zz => #[x, x])).get? a = some o := fun a o e => sS.extBut a o (nS a o e) (s1.extBut a o (nI a o e) (kp a o e))
  refine wpAny_pure ⟨plainId_quiet hpl _, ?_⟩
  revert hS2 hl1 hI2 kp2
  generalize h1.update S (Obj.mapSeq fun zz => #[x, x]) = H2
  intro hS2 hl2 hI2 kp2
  refine codeAny_builtin hel ?_
  rw [Around.under_plainId hpl _]
  show wpAny _ A.in1 (seqItems? (.ref S) >>= _) _ _ _
  refine wpAny_bind (wpAny_seqItems hS2 rfl ?_)
  show wpAny _ A.in1 (tryCatch (pyNext (.ref I)) _ >>= _) _ _ _
  refine wpAny_bind (wpAny_tryCatch (wpAny_pyNext_list_item hI2 hl2 T.h1 fun h3 hI3 s3 => ?_))
  have hS3 := (s3.2 S hIS.symm).trans hS2
  have kp3 : ∀ a o, s.heap.get? a = some o → h3.get? a = some o := fun a o e => s3.extBut a o (nI a o e) (kp2 a o e)
  have hl3 := hl2.extBut s3.extBut hlI
  show wpAny _ A.in1 (tryCatch (holding [y, y] (richCompare op y x >>= _)) _ >>= _) _ _ _
  refine wpAny_bind (wpAny_tryCatch (wpAny_holding (wpAny_bind (T.cmp _ kp3 _ _ _ _ ?_))))
  refine wpAny_bind (wpAny_holding (wpAny_truthy_bool ?_))
  refine wpAny_bind (wpAny_letGo (wpAny_pure ?_))
  have last : ∀ (H : Heap) (v : Value) (c : Nat), (∀ a o, s.heap.get? a = some o → H.get? a = some o) → H.get? S = some (seqL #[v, v] c) → H.IsList l us → H.IsListIter I l 2 → (∀ h', (∀ a o, s.heap.get? a = some o → h'.get? a = some o) → Q v { s with heap := h' }) → codeAny (model prog w) A (.builtin (toString nm ++ toString ".loop") ⟨[.ref I, .none, .ref S], []⟩) (wants Q E) { s with heap := H } := fun H v c kp hS hl hI hq => by
    refine codeAny_builtin hel ?_
    rw [Around.under_plainId hpl _]
    show wpAny _ A.in1 (seqItems? (.ref S) >>= _) _ _ _
    refine wpAny_bind (wpAny_seqItems hS rfl ?_)
    show wpAny _ A.in1 (tryCatch (pyNext (.ref I)) _ >>= _) _ _ _
    refine wpAny_bind (wpAny_tryCatch (wpAny_pyNext_list_end T.hA hI hl (Array.getElem?_eq_none_iff.mpr (Nat.le_of_eq T.hz)) fun h4 k4 => ?_))
    have hS4 := k4 S _ hIS.symm hS
    show wpAny _ A.in1 (updateSeq S (fun zz => #[]) >>= _) _ _ _
    refine wpAny_bind ?_
    refine wpAny_updateSeq hS4 rfl (wpAny_bind (wpAny_letGo (wpAny_pure ?_)))
    exact hq _ fun a o e => (Heap.get?_update_other _ _ (nS a o e).symm).trans (k4 a o (nI a o e) (kp a o e))
  cases b with
  | true =>
    simp only [if_true]
    refine wpAny_bind ?_
    refine wpAny_updateSeq hS3 rfl (wpAny_bind (wpAny_letGo ?_))
    exact wpAny_pure ⟨plainId_quiet hpl _, last _ y _ (fun a o e => (Heap.get?_update_other _ _ (nS a o e).symm).trans (kp3 a o e)) (Heap.get?_update_self _ hS3 rfl) (hl3.extBut (Heap.SameBut.update ..).extBut hlS) (hI3.extBut (Heap.SameBut.update ..).extBut hIS) hQ⟩
  | false =>
    simp only [Bool.false_eq_true, if_false]
    refine wpAny_bind (wpAny_letGo ?_)
    exact wpAny_pure ⟨plainId_quiet hpl _, last _ x _ kp3 hS3 hl3 hI3 hQ⟩
theorem min_two {l : Addr} {us : Array Value} {x y : Value} {b : Bool} {Q : Value → Shared → Prop} (T : Two A s .Lt l us x y b) (hQ : ∀ h', (∀ a o, s.heap.get? a = some o → h'.get? a = some o) → Q (if b = true then y else x) { s with heap := h' }) :
    wpAny (model prog w) A (call (.builtin "min") [.ref l]) Q E s :=
  have hn : (toString "min" ++ toString ".loop" : String) = "min.loop" := by decide
  ext_two F.kind_min F.plain_min F.entry_min F.args_min1 (hn.symm ▸ F.plain_min_loop) (hn.symm ▸ F.entry_min_loop) T hQ
theorem max_two {l : Addr} {us : Array Value} {x y : Value} {b : Bool} {Q : Value → Shared → Prop} (T : Two A s .Gt l us x y b) (hQ : ∀ h', (∀ a o, s.heap.get? a = some o → h'.get? a = some o) → Q (if b = true then y else x) { s with heap := h' }) :
    wpAny (model prog w) A (call (.builtin "max") [.ref l]) Q E s :=
  have hn : (toString "max" ++ toString ".loop" : String) = "max.loop" := by decide
  ext_two F.kind_max F.plain_max F.entry_max F.args_max1 (hn.symm ▸ F.plain_max_loop) (hn.symm ▸ F.entry_max_loop) T hQ
end
section
variable {G : GG} {F : Fm} {k : Nat} {ρ : Rho} {μ : Mu} {W : Wd} {s : Shared} {A : Around}
theorem two_rows {op : CmpOp} {n m : List (List Nat)} {v : Value} {b : Bool} (a : AOk F W k A) (r : Rel G F W ρ μ s) (hv : V W.π W.φ v (.list [strsD n, strsD m])) (h : ∀ (s' : Shared) (x y : Value), (∀ a o, W.φ a = some o → s'.heap.get? a = some o) → V W.π W.φ x (strsD n) → V W.π W.φ y (strsD m) → CmpAt op A.in1 s' y x b) :
    ∃ l us x y, v = .ref l ∧ Two A s op l us x y b ∧ V W.π W.φ x (strsD n) ∧ V W.π W.φ y (strsD m) := by
  obtain ⟨l, us, k, rfl, hl, rl⟩ := hv.listE
  obtain ⟨x, y, e, hx, hy⟩ := rl.two
  have at' : ∀ i, us[i]? = [x, y][i]? := fun i => by rw [← e, Array.getElem?_toList]
  exact ⟨l, us, x, y, rfl, ⟨a.handled, r.isL hl, at' 0, at' 1, vsize rl, fun s' kp => h s' x y (fun b o e => kp b o (r.wr.φ b o e)) hx hy⟩, hx, hy⟩
theorem in1_lt (a : AOk F W k A) : A.in1.units < cLine := by
  have h1 := a.u; have h2 := cl
  exact ar9 h1 h2
theorem bi_min {n m : List (List Nat)} {Q : D → Rho → Mu → Prop} {X} (h : Q (if ltL m n = true then strsD m else strsD n) ρ μ) : OpN G F k RV (bcall (.builtin "min")) [.list [strsD n, strsD m]] ρ μ Q X := fun W A s vs a r hvs => by
  obtain ⟨v, rfl, hv⟩ := hvs.one
  obtain ⟨l, us, x, y, rfl, T, hx, hy⟩ := two_rows (op := .Lt) (b := ltL m n) a r hv fun s' x y hφ hx hy => CmpAt.strs_lt hφ hy hx (in1_lt a)
  refine min_two T fun h' kp => .val (r.keeps (t := s.toks) kp) ?_ h
  cases ltL m n with
  | true => exact hy
  | false => exact hx
theorem bi_max {n m : List (List Nat)} {Q : D → Rho → Mu → Prop} {X} (h : Q (if ltL n m = true then strsD m else strsD n) ρ μ) : OpN G F k RV (bcall (.builtin "max")) [.list [strsD n, strsD m]] ρ μ Q X := fun W A s vs a r hvs => by
  obtain ⟨v, rfl, hv⟩ := hvs.one
  obtain ⟨l, us, x, y, rfl, T, hx, hy⟩ := two_rows (op := .Gt) (b := ltL n m) a r hv fun s' x y hφ hx hy => CmpAt.strs_gt hφ hy hx (in1_lt a)
  refine max_two T fun h' kp => .val (r.keeps (t := s.toks) kp) ?_ h
  cases ltL n m with
  | true => exact hy
  | false => exact hx
end
end
section
variable {G : GG} {F : Fm} {k : Nat} {ρ : Rho} {μ : Mu} {W : Wd} {s : Shared} {A : Around}
noncomputable def biVal : Bi → Value
  | .len => .builtin "len" | .min => .builtin "min" | .max => .builtin "max" | .sorted => .builtin "sorted" | .sum => .builtin "sum" | .abs => .builtin "abs" | .bytes => .type "bytes" | .ord => .builtin "ord"
  | .str => .type "str" | .isinstance => .builtin "isinstance" | .issubclass => .builtin "issubclass" | .type => .type "type" | .bad => .none
theorem bi_sound {b : Bi} {ds : List D} {Q : D → Rho → Mu → Prop} {X} (h : vcBi b ds μ fun d => Q d ρ μ) : OpN G F k RV (bcall (biVal b)) ds ρ μ Q X := by
  cases b with
  | len => exact bi_len h
  | min =>
    cases ds with
    | nil => exact h.elim
    | cons a r => cases r with
      | nil => obtain ⟨l, rfl, n, m, rfl, h9⟩ := asLE h; exact bi_min h9
      | cons b r => cases r with
        | nil => obtain ⟨x, rfl, h⟩ := asIE h; obtain ⟨y, rfl, h9⟩ := asIE h; exact bi_min2 h9
        | cons _ _ => exact h.elim
  | max => obtain ⟨d, rfl, h⟩ := oneE h; obtain ⟨l, rfl, n, m, rfl, h9⟩ := asLE h; exact bi_max h9
  | sorted => exact bi_sorted h
  | sum => obtain ⟨d, rfl, h⟩ := oneE h; obtain ⟨l, rfl, ns, rfl, h9⟩ := asLE h; exact bi_sum h9
  | abs => obtain ⟨d, rfl, h⟩ := oneE h; obtain ⟨l, rfl, h9⟩ := asIE h; exact bi_abs h9
  | bytes => obtain ⟨d, rfl, h⟩ := oneE h; obtain ⟨l, rfl, ns, rfl, hz, h9⟩ := asLE h; exact bi_bytes hz h9
  | ord => obtain ⟨d, rfl, h⟩ := oneE h; obtain ⟨l, rfl, c, rfl, h9⟩ := asSE h; exact bi_ord h9
  | str => obtain ⟨d, rfl, h⟩ := oneE h; obtain ⟨l, rfl, h1, h9⟩ := asIE h; exact bi_str h1 h9
  | isinstance => obtain ⟨l, rfl, h9⟩ := h; exact bi_isb h9
  | issubclass => obtain ⟨rfl, h9⟩ := h; exact bi_sub h9
  | type => obtain ⟨d, rfl, h⟩ := oneE h; obtain ⟨l, rfl, h9⟩ := asSE h; exact bi_type h9
  | bad => exact h.elim
theorem me_sound {m : Me} {x : D} {ds : List D} {Q : D → Rho → Mu → Prop} {X} (hm : m ≠ .read) (h : vcMe m x ds μ fun d μ' => Q d ρ μ') : OpMe G F k (meId m) x ds ρ μ Q X := by
  cases m with
  | append => obtain ⟨i, rfl, h⟩ := asME h; obtain ⟨d, rfl, h⟩ := oneE h; obtain ⟨l, hl, hz, h9⟩ := getMuE h; exact m_append hl hz h9
  | pop => obtain ⟨i, rfl, rfl, h8⟩ := asME h; obtain ⟨l, hl, hz, h9⟩ := getMuE h8; exact m_pop hl hz h9
  | startswith => obtain ⟨i, rfl, h⟩ := asSE h; obtain ⟨d, rfl, h9⟩ := oneSE h; exact m_starts h9
  | endswith => obtain ⟨i, rfl, h⟩ := asSE h; obtain ⟨d, rfl, h9⟩ := oneSE h; exact m_ends h9
  | rfind => obtain ⟨i, rfl, h⟩ := asSE h; obtain ⟨d, rfl, c, rfl, h9⟩ := oneSE h; exact m_rfind h9
  | rstrip => obtain ⟨i, rfl, h⟩ := asSE h; obtain ⟨d, rfl, c, rfl, h9⟩ := oneSE h; exact m_rstrip h9
  | split => obtain ⟨i, rfl, h⟩ := asSE h; obtain ⟨d, rfl, c, rfl, hz, h9⟩ := oneSE h; exact m_split hz h9
  | join => obtain ⟨i, rfl, h⟩ := asSE h; obtain ⟨d, rfl, h⟩ := oneE h; obtain ⟨l, rfl, xs, rfl, hz, h9⟩ := asLE h; exact m_join hz h9
  | decode => obtain ⟨i, rfl, h⟩ := asBE h; obtain ⟨d, rfl, rfl, hz, h9⟩ := oneSE h; exact m_decode hz h9
  | read => exact absurd rfl hm
  | bad => exact h.elim
end
section
variable {G : GG} {F : Fm} {k : Nat} {ρ : Rho} {μ : Mu} {W : Wd} {s : Shared} {A : Around}
theorem un1 {α : Type} {Q : α → Mu → Prop} : (fun d => Un ρ Q d ρ μ) = fun d => Q d μ := funext fun d => propext ⟨And.right, fun h => ⟨rfl, h⟩⟩
theorem un2 {α : Type} {Q : α → Mu → Prop} : (fun d μ' => Un ρ Q d ρ μ') = Q := funext fun d => funext fun m => propext ⟨And.right, fun h => ⟨rfl, h⟩⟩
theorem push_new {h : Heap} {o : Obj} : h.get? h.objs.size = none := by
  cases e : h.get? h.objs.size with
  | none => rfl
  | some o => exact absurd (Heap.lt_size e) (Nat.lt_irrefl _)
theorem Rel.newMut (r : Rel G F W ρ μ s) {vs : Array Value} {n : Nat} {ds : List D} (t : Nat) (hz : vs.size ≤ big) (hv : Vs W.π W.φ vs.toList ds) :
    Rel G F { W with π := W.π ++ [s.heap.objs.size] } ρ (μ ++ [some ds]) { s with heap := s.heap.push (listO vs n), toks := t } ∧ W.le { W with π := W.π ++ [s.heap.objs.size] } := by
  have hn : s.heap.get? s.heap.objs.size = none := push_new (o := listO vs n)
  have kp : ∀ b o, s.heap.get? b = some o → (s.heap.push (listO vs n)).get? b = some o := fun b o e => Heap.get?_push_of_some _ e
  obtain ⟨w, le⟩ := (r.wr.keeps (t := t) kp).openAt (none_of_keep r.wr.ψ hn) (none_of_keep r.wr.φ hn) (r.wr.fsNone hn) (r.wr.notMut hn) (Heap.get?_push_size _ rfl) hz hv
  refine ⟨r.ofW w le (fun b o zz e => kp b o e) fun b hb => ⟨(r.priv b hb).2.1, fun q => ?_⟩, le⟩
  rcases List.mem_append.mp q with q | q
  · exact (r.priv b hb).2.2.2 q
  · exact r.not_new hn (List.mem_singleton.mp q ▸ hb)
variable {Q : D → Rho → Mu → Prop} {X : List Nat → Rho → Mu → Prop}
theorem r_bin {l e : Expr} {o : Bop} {p : Pos} (h : WG G F k RV ρ μ (eval l F.env) (fun x ρ₁ μ₁ => WG G F k RV ρ₁ μ₁ (eval e F.env) (fun y ρ₂ μ₂ => vcBin o x y fun d => Q d ρ₂ μ₂) X) X) :
    WG G F k RV ρ μ (eval (.BinOp l (bopOp o) e p) F.env) Q X := fun W A s ha hr =>
  wpAny_BinOp (wp2 (.refl W) h ha hr (fun v s1 W1 x ρ1 μ1 le1 a1 r1 v1 q1 => wp2 le1 q1 a1 r1 (fun u s2 W2 y ρ2 μ2 le2 a2 r2 v2 q2 =>
    wpAny_mono (bin_sound q2 W2 A s2 v u a2 r2 (v1.up le2) v2) (fun zz zz p => p.up (le1.trans le2)) fun zz zz p => p.up (le1.trans le2)) fun zz zz p => p) fun zz zz p => p)
theorem r_cmp {l e : Expr} {o : Cop} {p : Pos} (hm : behindInMarks (copOp o) e = false) (h : WG G F k RV ρ μ (eval l F.env) (fun x ρ₁ μ₁ => WG G F k RV ρ₁ μ₁ (eval e F.env) (fun y ρ₂ μ₂ => vcCmp o x y μ₂ fun d => Q d ρ₂ μ₂) X) X) :
    WG G F k RV ρ μ (eval (.Compare l [copOp o] [e] p) F.env) Q X := fun W A s ha hr =>
  wpAny_Compare1 (wp2 (.refl W) h ha hr (fun v s1 W1 x ρ1 μ1 le1 a1 r1 v1 q1 => wp2 le1 q1 a1 r1 (fun u s2 W2 y ρ2 μ2 le2 a2 r2 v2 q2 =>
    wpAny_mono (cmp_sound q2 W2 A s2 v u a2 r2 (v1.up le2) v2) (fun zz zz p => p.up (le1.trans le2)) fun zz zz p => p.up (le1.trans le2)) fun zz zz p => p) fun zz zz p => p) hm
variable {QB : Bool → Rho → Mu → Prop}
theorem c_cmp {l e : Expr} {o : Cop} {p : Pos} {wh : Sem Value} (hm : behindInMarks (copOp o) e = false)
    (h : WG G F k RV ρ μ (eval l F.env) (fun x ρ₁ μ₁ => WG G F k RV ρ₁ μ₁ (eval e F.env) (fun y ρ₂ μ₂ => vcCmp o x y μ₂ fun d => vcTruth d μ₂ fun t => QB t ρ₂ μ₂) X) X) :
    WG G F k RE ρ μ (isTrue (.Compare l [copOp o] [e] p) F.env wh) QB X := fun W A s ha hr =>
  wpAny_isTrue_Compare1 (wp2 (.refl W) h ha hr (fun v s1 W1 x ρ1 μ1 le1 a1 r1 v1 q1 => wp2 le1 q1 a1 r1 (fun u s2 W2 y ρ2 μ2 le2 a2 r2 v2 q2 =>
    wpAny_mono (cmp_sound (Q := fun d ρ μ => vcTruth d μ fun t => QB t ρ μ) q2 W2 A s2 v u a2 r2 (v1.up le2) v2) (fun c s3 ⟨W3, d, ρ3, μ3, le3, r3, v3, q3⟩ =>
      wpAny_mono (truth_sound q3 W3 A s3 c ((a2.up le3)) r3 v3) (fun zz zz p => p.up ((le1.trans le2).trans le3)) fun zz zz p => p.up ((le1.trans le2).trans le3)) fun zz zz p => p.up (le1.trans le2)) fun zz zz p => p) fun zz zz p => p) hm
theorem c_plain {e : Expr} (he : ∀ wh, isTrue e F.env wh = (do let v ← wh; standAt e.pos; holding [v] (truthy v))) (h : WG G F k RV ρ μ (eval e F.env) (fun d ρ₁ μ₁ => vcTruth d μ₁ fun t => QB t ρ₁ μ₁) X) :
    WG G F k RE ρ μ (isTrue e F.env (eval e F.env)) QB X := fun W A s ha hr =>
  PyProof.Rows.isTrue_plain (wp2 (.refl W) h ha hr (fun v s1 W1 x ρ1 μ1 le1 a1 r1 v1 q1 => wpAny_mono (truth_sound q1 W1 A s1 v a1 r1 v1) (fun zz zz p => p.up le1) fun zz zz p => p.up le1) fun zz zz p => p) (he _)
theorem c_not {e : Expr} {p : Pos} {wh : Sem Value} (h : WG G F k RE ρ μ (isTrue e F.env (eval e F.env)) (fun t => QB (!t)) X) : WG G F k RE ρ μ (isTrue (.UnaryOp .Not e p) F.env wh) QB X := fun W A s ha hr =>
  wpAny_isTrue_Not (wpAny_mono (h W A s ha hr) (fun b s1 ⟨W1, c, ρ1, μ1, le1, r1, e1, q1⟩ => ⟨W1, !c, ρ1, μ1, le1, r1, by rw [show b = c from e1], q1⟩) fun zz zz p => p)
theorem c_and {e f : Expr} {p : Pos} {wh : Sem Value} (h : WG G F k RE ρ μ (isTrue e F.env (eval e F.env)) (fun t ρ₁ μ₁ => (t = true → WG G F k RE ρ₁ μ₁ (isTrue f F.env (eval f F.env)) QB X) ∧ (t = false → QB false ρ₁ μ₁)) X) :
    WG G F k RE ρ μ (isTrue (.BoolOp .And [e, f] p) F.env wh) QB X := fun W A s ha hr =>
  PyProof.Rows.isTrue_and (wpAny_mono (h W A s ha hr) (fun b s1 ⟨W1, c, ρ1, μ1, le1, r1, e1, q1⟩ => by
    cases (show b = c from e1)
    cases b with
    | false => exact ⟨W1, false, ρ1, μ1, le1, r1, rfl, q1.2 rfl⟩
    | true =>
      refine PyProof.Rows.isTrue_and (wpAny_mono (q1.1 rfl W1 A s1 (ha.up le1) r1) (fun b' s2 p2 => ?_) fun zz zz p => p.up le1)
      cases b' with
      | false => exact p2.up le1
      | true => exact PyProof.Rows.isTrue_and_nil (p2.up le1)) fun zz zz p => p)
theorem c_or {e f : Expr} {p : Pos} {wh : Sem Value} (h : WG G F k RE ρ μ (isTrue e F.env (eval e F.env)) (fun t ρ₁ μ₁ => (t = true → QB true ρ₁ μ₁) ∧ (t = false → WG G F k RE ρ₁ μ₁ (isTrue f F.env (eval f F.env)) QB X)) X) :
    WG G F k RE ρ μ (isTrue (.BoolOp .Or [e, f] p) F.env wh) QB X := fun W A s ha hr =>
  PyProof.Rows.isTrue_or (wpAny_mono (h W A s ha hr) (fun b s1 ⟨W1, c, ρ1, μ1, le1, r1, e1, q1⟩ => by
    cases (show b = c from e1)
    cases b with
    | true => exact ⟨W1, true, ρ1, μ1, le1, r1, rfl, q1.1 rfl⟩
    | false =>
      refine PyProof.Rows.isTrue_or (wpAny_mono (q1.2 rfl W1 A s1 (ha.up le1) r1) (fun b' s2 p2 => ?_) fun zz zz p => p.up le1)
      cases b' with
      | true => exact p2.up le1
      | false => exact PyProof.Rows.isTrue_or_nil (p2.up le1)) fun zz zz p => p)
theorem r_ite {c a b : Expr} {p : Pos} (h : WG G F k RE ρ μ (isTrue c F.env (eval c F.env)) (fun t ρ₁ μ₁ => (t = true → WG G F k RV ρ₁ μ₁ (eval a F.env) Q X) ∧ (t = false → WG G F k RV ρ₁ μ₁ (eval b F.env) Q X)) X) :
    WG G F k RV ρ μ (eval (.IfExp c a b p) F.env) Q X := fun W A s ha hr =>
  wpAny_IfExp (wpAny_mono (h W A s ha hr) (fun t s1 ⟨W1, c, ρ1, μ1, le1, r1, e1, q1⟩ => by
    cases (show t = c from e1)
    cases t with
    | true => exact wpAny_mono (q1.1 rfl W1 A s1 (ha.up le1) r1) (fun zz zz p => p.up le1) fun zz zz p => p.up le1
    | false => exact wpAny_mono (q1.2 rfl W1 A s1 (ha.up le1) r1) (fun zz zz p => p.up le1) fun zz zz p => p.up le1) fun zz zz p => p)
noncomputable abbrev evs (p : Pos) (es : List Expr) (env : Env) : Sem (List Value) := spliced (backTo p (starEach es env))
variable {QL : List D → Rho → Mu → Prop}
theorem es_nil {p : Pos} (h : QL [] ρ μ) : WG G F k RVs ρ μ (evs p [] F.env) QL X := fun W A s ha hr => wpAny_items_nil ⟨W, [], ρ, μ, .refl W, hr, .nil, h⟩
theorem es_cons {p : Pos} {e : Expr} {es : List Expr} (he : starEach (e :: es) F.env = (false, eval e F.env) :: starEach es F.env)
    (h : WG G F k RV ρ μ (eval e F.env) (fun d ρ₁ μ₁ => WG G F k RVs ρ₁ μ₁ (evs p es F.env) (fun ds => QL (d :: ds)) X) X) : WG G F k RVs ρ μ (evs p (e :: es) F.env) QL X := fun W A s ha hr =>
  wpAny_items_cons (wp2 (.refl W) h ha hr (fun v s1 W1 d ρ1 μ1 le1 a1 r1 v1 q1 => wpAny_mono (q1 W1 A s1 a1 r1) (fun vs s2 ⟨W2, ds, ρ2, μ2, le2, r2, v2, q2⟩ => ⟨W2, d :: ds, ρ2, μ2, le1.trans le2, r2, .cons (v1.up le2) v2, q2⟩) fun zz zz p => p.up le1) fun zz zz p => p) he
theorem r_list {es : List Expr} {p : Pos} (h : WG G F k RVs ρ μ (evs p es F.env) (fun ds ρ₁ μ₁ => ds.length ≤ big ∧ Q (.list ds) ρ₁ μ₁) X) : WG G F k RV ρ μ (eval (.List es p) F.env) Q X := fun W A s ha hr =>
  wpAny_List (wpAny_mono (h W A s ha hr) (fun vs s1 ⟨W1, ds, ρ1, μ1, le1, r1, v1, hz, q1⟩ => ⟨by rw [v1.length]; exact hz, (PQ.fresh (vs := vs.toArray) (n := 0) r1 s1.toks (by simpa [v1.length] using hz) v1 q1).up le1⟩) fun zz zz p => p)
theorem r_listM {es : List Expr} {p : Pos} (h : WG G F k RVs ρ μ (evs p es F.env) (fun ds ρ₁ μ₁ => ds.length ≤ big ∧ Q (.mut μ₁.length) ρ₁ (μ₁ ++ [some ds])) X) : WG G F k RV ρ μ (eval (.List es p) F.env) Q X := fun W A s ha hr =>
  wpAny_List (wpAny_mono (h W A s ha hr) (fun vs s1 ⟨W1, ds, ρ1, μ1, le1, r1, v1, hz, q1⟩ => ⟨by rw [v1.length]; exact hz, by
    obtain ⟨r2, le2⟩ := r1.newMut (vs := vs.toArray) (n := 0) s1.toks (by simpa [v1.length] using hz) v1
    exact ⟨_, _, _, _, le1.trans le2, r2, .mut (by show (W1.π ++ _)[_]? = _; rw [← r1.wr.len]; simp), q1⟩⟩) fun zz zz p => p)
theorem r_tup {es : List Expr} {n : Nat} {p : Pos} (h : WG G F k RVs ρ μ (evs p es F.env) (fun ds ρ₁ μ₁ => ds.length ≤ big ∧ Q (.tup ds) ρ₁ μ₁) X) : WG G F k RV ρ μ (eval (.Tuple es n p) F.env) Q X := fun W A s ha hr =>
  wpAny_Tuple (wpAny_mono (h W A s ha hr) (fun vs s1 ⟨W1, ds, ρ1, μ1, le1, r1, v1, hz, q1⟩ => ⟨by rw [v1.length]; exact hz, (PQ.new (o := tupO vs.toArray 0) r1 rfl s1.toks (fun W' le e => .tup e (by simpa [v1.length] using hz) (v1.up le)) q1).up le1⟩) fun zz zz p => p)
end
section
variable {G : GG} {F : Fm} {k : Nat} {ρ : Rho} {μ : Mu} {W : Wd} {s : Shared} {A : Around}
structure FmSc (F : Fm) (sc : Sc) : Prop where
  vars : F.vars = varsOf sc
  glob : ∀ x, globalIn sc x = true → F.env.kindOf x = some .globalImplicit
  cf : ∀ x, sc.lookup x = some .cell ∨ sc.lookup x = some .free → F.env.kindOf x = some .cell ∨ F.env.kindOf x = some .free
theorem placeFrom_get {x : Str} : ∀ {l : List Str} {n i : Nat}, placeFrom x l n = some i → n ≤ i ∧ l[i - n]? = some x
  | [], n, i, h => nosome h
  | y :: r, n, i, h => by
    unfold placeFrom at h
    by_cases e : x = y
    · rw [if_pos e] at h; cases h; subst e; exact ⟨Nat.le_refl _, by simp⟩
    · rw [if_neg e] at h
      obtain ⟨h1, h2⟩ := placeFrom_get h
      refine ⟨by exact Nat.le_of_lt ‹_›, ?_⟩
      rw [show i - n = (i - (n + 1)) + 1 by exact ar120 h1, List.getElem?_cons_succ]; exact h2
theorem place_get {x : Str} {l : List Str} {i : Nat} (h : place x l = some i) : l[i]? = some x := (placeFrom_get h).2
theorem FmSc.at {sc : Sc} (h : FmSc F sc) {x : Str} {i : Nat} (hp : place x (varsOf sc) = some i) : F.vars[i]? = some x := by rw [h.vars]; exact place_get hp
theorem load_fn (r : Rel G F W ρ μ s) {x : Str} {f : Fn} (hx : (x, f) ∈ fnNames) {E : Value → Shared → Prop} {Q : Value → Shared → Prop} (hk : F.env.kindOf x = some .globalImplicit) (hd : (x == ("__debug__" : Str)) = false) (h : Q (.ref (G.fa f)) s) {p : Pos} :
    wpAny G.M A (eval (.Name x p) F.env) Q E s :=
  Name_function_global r.ok.kind hk (loadGlobal_global (by rw [r.ok.glob]; exact r.wr.gnsAt) (r.wr.gok.fn x f hx).1 h) hd
theorem load_bi (r : Rel G F W ρ μ s) {x : Str} {v : Value} (hf : x ∈ freeNames) (hn : x ≠ "__name__") (hb : bootBuiltins x = some v) {E : Value → Shared → Prop} {Q : Value → Shared → Prop} (hk : F.env.kindOf x = some .globalImplicit) (hd : (x == ("__debug__" : Str)) = false) (h : Q v s) {p : Pos} :
    wpAny G.M A (eval (.Name x p) F.env) Q E s :=
  Name_function_global r.ok.kind hk (loadGlobal_builtin (by rw [r.ok.glob]; exact r.wr.gnsAt) (r.wr.gok.free x hf) (by rw [r.ok.bi]; exact r.wr.bnsAt) (by rw [r.wr.gok.bi x hn]; exact hb) h) hd
theorem biNames_ok : ∀ p ∈ biNames, p.1 ∈ freeNames ∧ p.1 ≠ "__name__" ∧ bootBuiltins p.1 = some (biVal p.2) ∧ (p.1 == ("__debug__" : Str)) = false ∧ p.2 ≠ .bad := by
  intro p hp
  simp only [biNames, List.mem_cons, List.not_mem_nil, or_false] at hp
  rcases hp with rfl | rfl | rfl | rfl | rfl | rfl | rfl | rfl | rfl | rfl | rfl | rfl <;> exact ⟨by decide +kernel, by decide +kernel, by kernel_rfl, by decide +kernel, by intro h; cases h⟩
theorem tyNames_ok : ∀ p ∈ tyNames, p.1 ∈ freeNames ∧ p.1 ≠ "__name__" ∧ bootBuiltins p.1 = some (.type p.2) ∧ (p.1 == ("__debug__" : Str)) = false := by
  intro p hp
  simp only [tyNames, List.mem_cons, List.not_mem_nil, or_false] at hp
  rcases hp with rfl | rfl <;> exact ⟨by decide +kernel, by decide +kernel, by kernel_rfl, by decide +kernel⟩
theorem r_ty {x : Str} {n : String} {p : Pos} {Q : D → Rho → Mu → Prop} {X} (hx : tyNames.lookup x = some n) (hk : F.env.kindOf x = some .globalImplicit) (h : Q (.ty n) ρ μ) : WG G F k RV ρ μ (eval (.Name x p) F.env) Q X := fun W A s ha hr => by
  obtain ⟨h1, h2, h3, h4⟩ := tyNames_ok _ (lookup_mem hx)
  exact load_bi hr h1 h2 h3 hk h4 (.val hr (.ty _) h)
theorem star_plain {e : Expr} (h : plainB e = true) (r : List Expr) (env : Env) : starEach (e :: r) env = (false, eval e env) :: starEach r env := by
  cases e <;> first | rfl | exact absurd h Bool.false_ne_true
theorem back_cons {e : Expr} (h : plainB e = true) (r : List Expr) (p : Pos) (env : Env) : backTo p (starEach (e :: r) env) = (false, eval e env) :: backTo p (starEach r env) := by rw [star_plain h]; rfl
theorem back_plain : ∀ {es : List Expr} (p : Pos) (env : Env), es.all plainB = true → (backTo p (starEach es env)).any (·.1) = false ∧ (backTo p (starEach es env)).all (fun x => !x.1) = true
  | [], _, _, _ => ⟨rfl, rfl⟩
  | e :: r, p, env, h => by
    rw [List.all_cons, Bool.and_eq_true] at h
    obtain ⟨h1, h2⟩ := back_plain p env h.2
    rw [back_cons h.1, List.any_cons, List.all_cons, h1, h2]
    exact ⟨rfl, rfl⟩
variable {Q : D → Rho → Mu → Prop} {X : List Nat → Rho → Mu → Prop}
theorem biVal_call {b : Bi} (hb : b ≠ .bad) : (∃ id, biVal b = .builtin id) ∨ ∃ n, biVal b = .type n := by
  cases b <;> first | exact .inl ⟨_, rfl⟩ | exact .inr ⟨_, rfl⟩ | exact absurd rfl hb
theorem r_bi {f : Str} {b : Bi} {e : Expr} {es : List Expr} {p p' : Pos} (hf : biNames.lookup f = some b) (hk : F.env.kindOf f = some .globalImplicit) (hpl : (e :: es).all plainB = true)
    (h : WG G F k RVs ρ μ (evs p (e :: es) F.env) (fun ds ρ₁ μ₁ => vcBi b ds μ₁ fun d => Q d ρ₁ μ₁) X) : WG G F k RV ρ μ (eval (.Call (.Name f p') (e :: es) [] p) F.env) Q X := fun W A s ha hr => by
  obtain ⟨h1, h2, h3, h4, h5⟩ := biNames_ok _ (lookup_mem hf)
  rw [List.all_cons, Bool.and_eq_true] at hpl
  have hs := star_plain hpl.1 es F.env
  have key := wpAny_mono (h W A s ha hr) (Q' := fun vs s₁ => wpAny G.M A (call (biVal b) vs) (PQ G F W RV Q) (PX G F W X) s₁) (fun vs s1 ⟨W1, ds, ρ1, μ1, le1, r1, v1, q1⟩ =>
    wpAny_mono (bi_sound q1 W1 A s1 vs (ha.up le1) r1 v1) (fun zz zz p => p.up le1) fun zz zz p => p.up le1) fun zz zz p => p
  refine Call_ (load_bi hr h1 h2 h3 hk h4 ?_)
  rcases biVal_call h5 with ⟨id, hv⟩ | ⟨n, hv⟩ <;> (rw [show (f, b).2 = b from rfl, hv]; rw [hv] at key)
  · exact PyProof.Rows.callWith_builtin1 key hs (back_plain p F.env hpl.2).1
  · exact Pv.callWith_type1 key hs (back_plain p F.env hpl.2).1
theorem base_plain {o : Expr} (h : callLike o = false) (name : Str) (env : Env) (t : Sem Value) : attributeBase o name env t = t := by
  cases o <;> first | rfl | exact absurd h.symm Bool.false_ne_true
theorem vsCons_call {id : String} {v : Value} {es : List Expr} {p : Pos} {E : Value → Shared → Prop} {Q : Value → Shared → Prop} (hpl : es.all plainB = true) (h : wpAny G.M A (evs p es F.env) (fun vs s₁ => wpAny G.M A (call (.builtin id) (v :: vs)) Q E s₁) E s) :
    wpAny G.M A (callWith p (.builtin id) [v] (backTo p (starEach es F.env)) []) Q E s := by
  refine Calls.callWith_builtin (back_plain p F.env hpl).1 ?_
  cases es with
  | nil =>
    exact PyProof.Rows.evalArgs_none (fun Γ q hΓ => (show wpAny G.M A (call (.builtin id) [v]) Q E s from h Γ q hΓ) Γ q hΓ)
  | cons e r =>
    rw [List.all_cons, Bool.and_eq_true] at hpl
    unfold evs at h
    rw [back_cons hpl.1] at h ⊢
    exact evalArgs_plain h
theorem r_me {m : Me} {o : Expr} {name : Str} {es : List Expr} {p p' : Pos} (hf : meNames.lookup name = some m) (hm : m ≠ .read) (hline : (p'.endLine == p.line) = true) (hlen : es.length < 20) (ho : callLike o = false) (hpl : es.all plainB = true)
    (h : WG G F k RV ρ μ (eval o F.env) (fun x ρ₁ μ₁ => meOk k m x ∧ WG G F k RVs ρ₁ μ₁ (evs p es F.env) (fun ds ρ₂ μ₂ => vcMe m x ds μ₂ fun d μ₃ => Q d ρ₂ μ₃) X) X) :
    WG G F k RV ρ μ (eval (.Call (.Attribute o name p') es [] p) F.env) Q X := fun W A s ha hr => by
  obtain ⟨hn, hbad⟩ := meNames_ok _ (lookup_mem hf)
  have hn : name = meName m := hn
  subst hn
  obtain ⟨s1, s2, s3⟩ := me_slot hm hbad
  refine wpAny_Call_method_late (base_plain ho _ _ _) ?_ hline rfl (wp2 (.refl W) h ha hr (fun v s1' W1 x ρ1 μ1 le1 a1 r1 v1 zz8 => zz8.elim fun ok q1 => ?_) fun zz zz p => p)
  · rw [(back_plain p F.env hpl).2]
    show (true && true && decide (es.length + 0 + 0 < 30)) = true
    simp; exact ar121 hlen
  · obtain ⟨t1, t2⟩ := me_type hm ok r1 v1
    refine ⟨meT m, meId m, s1, s2, s3, t1, t2, vsCons_call hpl (wpAny_mono (q1 W1 A s1' a1 r1) (fun vs s2 ⟨W2, ds, ρ2, μ2, le2, r2, v2, q2⟩ => ?_) fun zz zz p => p.up le1)⟩
    exact wpAny_mono (me_sound hm q2 W2 A s2 v vs (a1.up le2) r2 (v1.up le2) v2) (fun zz zz p => (p.up le2).up le1) fun zz zz p => (p.up le2).up le1
end
section
open Classical
variable {G : GG} {F : Fm} {k : Nat} {ρ : Rho} {μ : Mu} {W : Wd} {s : Shared} {A : Around}
noncomputable def inner (F : Fm) (W : Wd) (h : Heap) : Wd := { W with ψ := fun a => if a ∈ F.own then h.get? a else W.ψ a, fs := fun a => if a = F.env.locals then h.get? a else W.fs a }
theorem inner_ψ {h : Heap} {a : Addr} {o : Obj} (r : ∀ a ∈ F.env.locals :: F.own, W.ψ a = none ∧ W.φ a = none ∧ W.fs a = none ∧ a ∉ W.π) (e : W.ψ a = some o) : (inner F W h).ψ a = some o := by
  show (if a ∈ F.own then h.get? a else W.ψ a) = _
  by_cases q : a ∈ F.own
  · rw [(r a (List.mem_cons_of_mem _ q)).1] at e; exact nosome e
  · rw [if_neg q]; exact e
theorem inner_fs {h : Heap} {a : Addr} {o : Obj} (r : ∀ a ∈ F.env.locals :: F.own, W.ψ a = none ∧ W.φ a = none ∧ W.fs a = none ∧ a ∉ W.π) (e : W.fs a = some o) : (inner F W h).fs a = some o := by
  show (if a = F.env.locals then h.get? a else W.fs a) = _
  by_cases q : a = F.env.locals
  · rw [q, (r _ (List.mem_cons_self ..)).2.2.1] at e; exact nosome e
  · rw [if_neg q]; exact e
theorem inner_own {h : Heap} {a : Addr} (q : a ∈ F.own) : (inner F W h).ψ a = h.get? a := if_pos q
theorem inner_loc {h : Heap} : (inner F W h).fs F.env.locals = h.get? F.env.locals := if_pos rfl
theorem Rel.locals (r : Rel G F W ρ μ s) : ∃ o es ep, s.heap.get? F.env.locals = some o ∧ o.data = .dict es ep := r.loc.elim fun zz zz16 => zz16.elim fun zz17 zz => zz17.elim fun o zz18 => zz18.elim fun es zz19 => zz19.elim fun ep zz20 => zz20.elim fun e zz21 => zz21.elim fun d zz => ⟨o, es, ep, e, d⟩
theorem Rel.enter (r : Rel G F W ρ μ s) : WRel G (inner F W s.heap) μ s where
  gok := r.wr.gok
  ground := fun a o e => inner_ψ r.priv (r.wr.ground a o e)
  ψ := fun a o e => by
    by_cases q : a ∈ F.own
    · rw [inner_own q] at e; exact e
    · rw [show (inner F W s.heap).ψ a = W.ψ a from if_neg q] at e; exact r.wr.ψ a o e
  φ := r.wr.φ
  fs := fun a o e hp => by
    by_cases q : a = F.env.locals
    · subst q; rw [inner_loc] at e; exact ⟨o.slots, e⟩
    · rw [show (inner F W s.heap).fs a = W.fs a from if_neg q] at e; exact r.wr.fs a o e hp
  len := r.wr.len
  muts := r.wr.muts
  nodup := r.wr.nodup
  apart := fun a ha => by
    obtain ⟨p, x⟩ := r.wr.apart a ha
    have h1 : a ∉ F.env.locals :: F.own := fun h => (r.priv a h).2.2.2 ha
    refine ⟨?_, ?_⟩
    · rw [show (inner F W s.heap).ψ a = W.ψ a from if_neg fun h => h1 (List.mem_cons_of_mem _ h)]; exact p
    · rw [show (inner F W s.heap).fs a = W.fs a from if_neg fun h => h1 (by rw [h]; exact List.mem_cons_self ..)]; exact x
  live := r.wr.live
  done := r.wr.done
  tab := r.wr.tab.move (fun zz e => e) ((if_neg fun q => r.wr.notTab (r.priv _ (List.mem_cons_of_mem _ q)).2.2.1 rfl).trans r.wr.tab.ψ) r.wr.tab.φ (if_neg fun q => r.wr.notTab (r.priv _ (List.mem_cons_self ..)).2.2.1 q.symm) (.refl _)
  rest := r.wr.rest
theorem Rel.enterB (r : Rel G F W ρ μ s) (a : AOk F W k A) : CA (inner F W s.heap) k A where
  handled := a.handled
  depth := a.depth
  units := a.units
  frames := by
    obtain ⟨l, e, _, h⟩ := a.frames
    refine ⟨l, e, fun x hx => ?_⟩
    obtain ⟨h1, b, h2, h3⟩ := h x hx
    refine ⟨h1, b, h2, .inr ?_⟩
    rcases h3 with h3 | ⟨⟨o, h3, h4⟩, h5, h6⟩
    · cases h3
      obtain ⟨o, es, ep, e1, e2⟩ := r.locals
      obtain ⟨p1, p2, _⟩ := r.priv _ (List.mem_cons_self ..)
      exact ⟨⟨o, by rw [inner_loc]; exact e1, fun vs q => by rw [e2] at q; cases q⟩, (if_neg (List.nodup_cons.mp r.pnd).1).trans p1, p2⟩
    · exact ⟨⟨o, inner_fs r.priv h3, h4⟩, (if_neg fun q => by rw [(r.priv _ (List.mem_cons_of_mem _ q)).2.2.1] at h3; exact nosome h3).trans h5, h6⟩
theorem Rel.enterA (r : Rel G F W ρ μ s) (a : AOk F W (k + 1) A) : CA (inner F W s.heap) k A := let c := r.enterB a; ⟨c.handled, by have := c.depth; exact Nat.le_of_lt ‹_›, by have := c.units; exact ar122 this, c.frames⟩
noncomputable def outer (W W₁ : Wd) : Wd := { W₁ with ψ := W.ψ, fs := W.fs }
theorem Rel.leave (r : Rel G F W ρ μ s) {W₁ : Wd} {μ' : Mu} {s' : Shared} (le : (inner F W s.heap).le W₁) (w : WRel G W₁ μ' s') : Rel G F (outer W W₁) ρ μ' s' ∧ W.le (outer W W₁) := by
  have eψ : ∀ a, W₁.ψ a = (inner F W s.heap).ψ a := fun a => by rw [le.ψ]
  have efs : ∀ a, W₁.fs a = (inner F W s.heap).fs a := fun a => by rw [le.fs]
  have le' : W.le (outer W W₁) := ⟨rfl, rfl, le.φ, le.π, le.base, fun a h e => le.fresh a (by
    rcases h with h | h
    · cases q : W.ψ a with
      | none => exact absurd q h
      | some o => exact .inl (by rw [inner_ψ r.priv q]; intro z; cases z)
    · cases q : W.fs a with
      | none => exact absurd q h
      | some o => exact .inr (by rw [inner_fs r.priv q]; intro z; cases z)) e⟩
  have own : ∀ a ∈ F.own, ∃ o, s.heap.get? a = some o ∧ s'.heap.get? a = some o ∧ W₁.ψ a = some o := fun a ha => by
    obtain ⟨o, e⟩ := r.there a ha
    have e1 : W₁.ψ a = some o := by rw [eψ, inner_own ha]; exact e
    exact ⟨o, e, w.ψ a o e1, e1⟩
  obtain ⟨m, ⟨ol, es, ep, el, dl, kl⟩, hv⟩ := r.loc
  have efl : W₁.fs F.env.locals = some ol := by rw [efs, inner_loc]; exact el
  have kept : ∀ c o, (c ∈ F.own ∨ ∃ o, W.ψ c = some o) → s.heap.get? c = some o → s'.heap.get? c = some o := fun c o h e => by
    rcases h with h | ⟨o', h⟩
    · obtain ⟨o2, e1, e2, _⟩ := own c h
      rw [e1] at e; cases e; exact e2
    · have e3 := r.wr.ψ c o' h
      rw [e3] at e
      rw [← e]
      exact w.ψ c o' (by rw [eψ]; exact inner_ψ r.priv h)
  refine ⟨⟨⟨w.gok, r.wr.ground, fun a o e => w.ψ a o (by rw [eψ]; exact inner_ψ r.priv e), w.φ, fun a o e hp => w.fs a o (by rw [efs]; exact inner_fs r.priv e) hp, w.len, w.muts, w.nodup, fun a ha => ?_, w.live, w.done, w.tab.move (fun zz e => e) r.wr.tab.ψ w.tab.φ (by obtain ⟨ps, e⟩ := r.wr.tab.fs; rw [efs, inner_fs r.priv e]; exact e) (.refl _), w.rest⟩,
    r.ok, ?_, fun a ha => ?_, r.pnd, r.cells, r.cnd, fun a ha => (own a ha).elim fun o zz22 => zz22.elim fun zz zz23 => zz23.elim fun e zz => ⟨o, e⟩⟩, le'⟩
  · obtain ⟨p, x⟩ := w.apart a ha
    refine ⟨?_, ?_⟩
    · cases e : W.ψ a with
      | none => exact e
      | some o => rw [eψ, inner_ψ r.priv e] at p; cases p
    · cases e : W.fs a with
      | none => exact e
      | some o => rw [efs, inner_fs r.priv e] at x; cases x
  · obtain ⟨sl, e2⟩ := w.fs _ _ efl (r.wr.notTab (r.priv _ (List.mem_cons_self ..)).2.2.1)
    refine ⟨m, ⟨_, es, ep, e2, dl, kl⟩, fun i x hx => VarOk.up (W := W) (Or.imp id (fun zz1 => zz1.elim fun q1 zz2 => zz2.elim fun c zz3 => zz3.elim fun oc zz4 => zz4.elim fun q2 zz5 => zz5.elim fun zz6 q5 => zz6.elim fun co zz7 => zz7.elim fun q3 q4 => ⟨q1, c, oc, q2, ⟨co, kept c co (r.cells _ _ q2) q3, q4⟩, q5⟩) (hv i x hx)) le'⟩
  · obtain ⟨p, q, x, y⟩ := r.priv a ha
    have hsome : (inner F W s.heap).ψ a ≠ none ∨ (inner F W s.heap).fs a ≠ none := by
      rcases List.mem_cons.mp ha with rfl | h
      · exact .inr (by rw [inner_loc, el]; intro z; cases z)
      · obtain ⟨o, e⟩ := r.there a h
        exact .inl (by rw [inner_own h, e]; intro z; cases z)
    refine ⟨p, le.fresh a hsome q, x, fun h => ?_⟩
    obtain ⟨z1, z2⟩ := w.apart a h
    rw [eψ] at z1; rw [efs] at z2
    rcases hsome with h | h
    · exact h z1
    · exact h z2
theorem Rel.out (r : Rel G F W ρ μ s) {W₁ : Wd} {a : Addr} (le : (inner F W s.heap).le W₁) (h : OutW W₁ a) : Out F (outer W W₁) a := by
  obtain ⟨p, q, x, y⟩ := h
  rw [le.ψ] at p; rw [le.fs] at x
  refine ⟨?_, q, ?_, y, fun ha => ?_⟩
  · cases e : W.ψ a with
    | none => exact e
    | some o => rw [inner_ψ r.priv e] at p; cases p
  · cases e : W.fs a with
    | none => exact e
    | some o => rw [inner_fs r.priv e] at x; cases x
  · rcases List.mem_cons.mp ha with rfl | h
    · obtain ⟨o, _, _, e, _⟩ := r.locals
      rw [inner_loc, e] at x; cases x
    · obtain ⟨o, e⟩ := r.there a h
      rw [inner_own h, e] at p; cases p
theorem Rel.exc (r : Rel G F W ρ μ s) {W₁ : Wd} {h : Heap} {e : Addr} {msg : List Nat} (le : (inner F W s.heap).le W₁) (x : CExc W₁ h e msg) : ExcAt F (outer W W₁) h e msg := x.mono (fun a h => r.out le h) false fun zz => rfl
variable {Q : D → Rho → Mu → Prop} {X : List Nat → Rho → Mu → Prop}
theorem call_any {fv : Value} {QM : D → Mu → Prop} {XM : List Nat → Mu → Prop} {vs : List Value} (r : Rel G F W ρ μ s) (h : codeAny G.M A (.call fv ⟨vs, []⟩) (CPost G (inner F W s.heap) QM XM) s) :
    wpAny G.M A (call fv vs) (PQ G F W RV (Un ρ QM)) (PX G F W (Un ρ XM)) s := by
  refine wpAny_call (codeAny_mono h fun res s' hp => ?_)
  cases res with
  | ok fl =>
    cases fl with
    | ret v =>
      cases hp with
      | mk W₁ d μ' le w hv q =>
        obtain ⟨r', le'⟩ := r.leave le w
        exact ⟨_, d, ρ, μ', le', r', hv, rfl, q⟩
    | _ => exact hp.elim
  | error x =>
    cases hp with
    | mk W₁ e msg μ' le w hx ex q =>
      obtain ⟨r', le'⟩ := r.leave le w
      exact ⟨_, e, msg, ρ, μ', le', r', hx, r.exc le ex, rfl, q⟩
theorem call_fn {f : Fn} {ds : List D} {QM : D → Mu → Prop} {XM : List Nat → Mu → Prop} {vs : List Value} (r : Rel G F W ρ μ s) (a : AOk F W k A) (hv : Vs W.π W.φ vs ds) (h : callC G k f ds μ QM XM) :
    wpAny G.M A (call (.ref (G.fa f)) vs) (PQ G F W RV (Un ρ QM)) (PX G F W (Un ρ XM)) s := by
  cases k with
  | zero => exact h.elim
  | succ k => exact call_any r (h _ A s vs (r.enterA a) r.enter hv)
theorem r_call {f : Str} {g : Fn} {e : Expr} {es : List Expr} {p p' : Pos} {QM : D → Mu → Prop} {XM : List Nat → Mu → Prop} (hf : fnNames.lookup f = some g) (hd : (f == ("__debug__" : Str)) = false) (hk : F.env.kindOf f = some .globalImplicit) (hpl : (e :: es).all plainB = true)
    (h : WG G F k RVs ρ μ (evs p (e :: es) F.env) (Un ρ fun ds μ₁ => callC G k g ds μ₁ QM XM) (Un ρ XM)) : WG G F k RV ρ μ (eval (.Call (.Name f p') (e :: es) [] p) F.env) (Un ρ QM) (Un ρ XM) := fun W A s ha hr => by
  rw [List.all_cons, Bool.and_eq_true] at hpl
  refine Call_ (load_fn hr (lookup_mem hf) hk hd ?_)
  obtain ⟨_, o, pm, code, doc, params, body, scope, e1, e2, _⟩ := hr.wr.gok.fn f g (lookup_mem hf)
  refine PyProof.Rows.callWith_def e2 (wpAny_mono (h W A s ha hr) (fun vs s1 ⟨W1, ds, ρ1, μ1, le1, r1, v1, eq, q1⟩ => ⟨r1.wr.ψ _ _ (r1.wr.ground _ _ e1), ?_⟩) fun zz zz p => p) (star_plain hpl.1 es F.env)
  subst eq
  exact wpAny_mono (call_fn r1 (ha.up le1) v1 q1) (fun zz zz p => p.up le1) fun zz zz p => p.up le1
end
section
open Classical
variable {G : GG} {F : Fm} {k : Nat} {ρ : Rho} {μ : Mu} {W : Wd} {s : Shared} {A : Around}
theorem Out.known {b : Addr} (h : Out F W b) (k : Known W b) : False := by
  rcases k with k | k | k | k
  · exact k h.1
  · exact k h.2.1
  · exact k h.2.2.1
  · exact h.2.2.2.1 k
theorem Rel.touch (r : Rel G F W ρ μ s) {h' : Heap} {t : Nat} (kp : ∀ b o, ¬ Out F W b → s.heap.get? b = some o → h'.get? b = some o) : Rel G F W ρ μ { s with heap := h', toks := t } :=
  r.ofW (r.wr.at fun b o k e => kp b o (fun h => h.known k) e) (.refl W) (fun b o k e => kp b o (fun h => k.elim (fun k => h.2.2.2.2 k) fun k => k h.1) e) fun b hb => ⟨(r.priv b hb).2.1, (r.priv b hb).2.2.2⟩
noncomputable def hold (W : Wd) (K : PMap) : Wd := { W with ψ := fun a => if (K a).isSome = true then K a else W.ψ a }
theorem hold_none {K : PMap} {a : Addr} (h : K a = none) : (hold W K).ψ a = W.ψ a := if_neg (by rw [h]; exact Bool.false_ne_true)
theorem hold_some {K : PMap} {a : Addr} {o : Obj} (h : K a = some o) : (hold W K).ψ a = some o := by
  show (if _ then _ else _) = _
  rw [if_pos (by rw [h]; rfl), h]
theorem hold_keep {K : PMap} (hK : ∀ a o, K a = some o → W.ψ a = none) {a : Addr} {o : Obj} (e : W.ψ a = some o) : (hold W K).ψ a = some o := by
  cases h : K a with
  | none => rw [hold_none h]; exact e
  | some o' => rw [hK a o' h] at e; exact nosome e
theorem Rel.hold (r : Rel G F W ρ μ s) {K : PMap} (hK : ∀ a o, K a = some o → s.heap.get? a = some o ∧ Out F W a) : Rel G F (hold W K) ρ μ s := by
  have hn : ∀ a o, K a = some o → W.ψ a = none := fun a o e => (hK a o e).2.1
  refine ⟨⟨r.wr.gok, fun a o e => hold_keep hn (r.wr.ground a o e), fun a o e => ?_, r.wr.φ, r.wr.fs, r.wr.len, r.wr.muts, r.wr.nodup, fun a ha => ?_, r.wr.live, r.wr.done, r.wr.tab.move (fun zz e => e) (by cases h : K G.P with | none => rw [hold_none h]; exact r.wr.tab.ψ | some o => exact absurd rfl (r.wr.notTab (hK _ o h).2.2.2.1)) r.wr.tab.φ rfl (.refl _), r.wr.rest⟩, r.ok, r.loc, fun a ha => ?_, r.pnd, fun x c e => (r.cells x c e).imp id fun zz1 => zz1.elim fun o e => ⟨o, hold_keep hn e⟩, r.cnd, r.there⟩
  · cases h : K a with
    | none => rw [hold_none h] at e; exact r.wr.ψ a o e
    | some o' => rw [hold_some h] at e; rw [← e]; exact (hK a o' h).1
  · obtain ⟨p, q⟩ := r.wr.apart a ha
    cases h : K a with
    | none => exact ⟨by rw [hold_none h]; exact p, q⟩
    | some o' => exact absurd ha (hK a o' h).2.2.2.2.1
  · obtain ⟨p, q⟩ := r.priv a ha
    cases h : K a with
    | none => exact ⟨by rw [hold_none h]; exact p, q⟩
    | some o' => exact absurd ha (hK a o' h).2.2.2.2.2
noncomputable def unhold (W W₁ : Wd) : Wd := { W₁ with ψ := W.ψ }
theorem Rel.unhold {W₁ : Wd} {K : PMap} (hK : ∀ a o, K a = some o → Out F W a) (gr : ∀ a o, G.H.get? a = some o → W.ψ a = some o) (ce : ∀ x c, F.env.cells.lookup x = some c → c ∈ F.own ∨ ∃ o, W.ψ c = some o) (le : (Mine.hold W K).le W₁) (r : Rel G F W₁ ρ μ s) :
    Rel G F (Mine.unhold W W₁) ρ μ s ∧ W.le (Mine.unhold W W₁) ∧ ∀ a o, K a = some o → s.heap.get? a = some o ∧ Out F (Mine.unhold W W₁) a := by
  have hn : ∀ a o, K a = some o → W.ψ a = none := fun a o e => (hK a o e).1
  have eψ : ∀ a, W₁.ψ a = (Mine.hold W K).ψ a := fun a => by rw [le.ψ]
  have up : ∀ a o, W.ψ a = some o → W₁.ψ a = some o := fun a o e => by rw [eψ]; exact hold_keep hn e
  have dn : ∀ a, W₁.ψ a = none → W.ψ a = none := fun a e => by
    cases q : W.ψ a with
    | none => rfl
    | some o => rw [up a o q] at e; cases e
  refine ⟨⟨⟨r.wr.gok, gr, fun a o e => r.wr.ψ a o (up a o e), r.wr.φ, r.wr.fs, r.wr.len, r.wr.muts, r.wr.nodup, fun a ha => (r.wr.apart a ha).elim fun p q => ⟨dn a p, q⟩, r.wr.live, r.wr.done, r.wr.tab.move (fun zz e => e) (dn _ r.wr.tab.ψ) r.wr.tab.φ rfl (.refl _), r.wr.rest⟩, r.ok, r.loc, fun a ha => (r.priv a ha).elim fun p q => ⟨dn a p, q⟩, r.pnd, ce, r.cnd, r.there⟩,
    ⟨rfl, le.fs, le.φ, le.π, le.base, fun a h e => le.fresh a (h.imp (fun h => ?_) id) e⟩, fun a o e => ?_⟩
  · cases q : W.ψ a with
    | none => exact absurd q h
    | some o => rw [hold_keep hn q]; intro z; cases z
  · have h := hK a o e
    have hs : W₁.ψ a = some o := by rw [eψ]; exact hold_some e
    refine ⟨r.wr.ψ a o hs, h.1, le.fresh a (.inl (by rw [hold_some e]; intro z; cases z)) h.2.1, by show W₁.fs a = none; rw [le.fs]; exact h.2.2.1, fun z => ?_, h.2.2.2.2⟩
    have := (r.wr.apart a z).1
    rw [hs] at this; cases this
theorem AOk.ofFs {W' : Wd} (a : AOk F W k A) (h : W'.fs = W.fs) (hφ : W'.φ = W.φ) (hψ : ∀ a, W.fs a ≠ none → W'.ψ a = W.ψ a) : AOk F W' k A :=
  ⟨a.handled, a.depth, a.units, a.frames.elim fun l zz6 => zz6.elim fun e zz7 => zz7.elim fun h1 h2 => ⟨l, e, h1, fun x hx => (h2 x hx).elim fun p zz8 => zz8.elim fun q zz9 => zz9.elim fun r z => ⟨p, q, r, z.imp id fun zz2 => zz2.elim fun zz3 zz4 => zz3.elim fun o zz5 => zz5.elim fun y n => zz4.elim fun u v => ⟨⟨o, by rw [h]; exact y, n⟩, by rw [hψ _ (by rw [y]; exact fun z => nomatch z)]; exact u, by rw [hφ]; exact v⟩⟩⟩⟩
end
section
variable {G : GG} {F : Fm} {k : Nat} {ρ : Rho} {μ : Mu} {W : Wd} {s : Shared} {A : Around}
theorem FmOk.plain (h : FmOk F) : (F.env.scope.kind == .class || (F.env.scope.kind == .module && F.env.locals != F.env.globals)) = false := by rw [h.kind]; rfl
theorem nodup_at {x : Str} {i j : Nat} (h : F.vars.Nodup) (hi : F.vars[i]? = some x) (hj : F.vars[j]? = some x) : i = j := by
  obtain ⟨l1, g1⟩ := List.getElem?_eq_some_iff.mp hi
  obtain ⟨l2, g2⟩ := List.getElem?_eq_some_iff.mp hj
  exact (List.getElem_inj h).mp (g1.trans g2.symm)
theorem put_other {i j : Nat} {d : Option D} (h : i ≠ j) : look (put ρ i d) j = look ρ j := by rw [look_put, if_neg fun q => h q.1]
theorem look_out : ∀ (ρ : Rho) (i : Nat), ρ.length ≤ i → look ρ i = none
  | [], _, _ => rfl
  | c :: r, 0, h => absurd h (by simp)
  | c :: r, i + 1, h => look_out r i (by simpa using h)
theorem put_own {i : Nat} {od : Option D} (d' : D) (e : look (put ρ i od) i = some d') : od = some d' := by
  rw [look_put] at e
  by_cases h : i < ρ.length
  · rw [if_pos ⟨rfl, h⟩] at e; exact e
  · rw [if_neg fun q => h q.2, look_out ρ i (by exact Nat.le_of_not_lt ‹_›)] at e; exact nosome e
theorem ns_same {h : Heap} {a : Addr} {m m' : Str → Option Value} (x : h.Ns a m) (y : h.Ns a m') : m' = m := by
  obtain ⟨o, es, ep, e, d, _, k⟩ := x
  obtain ⟨o', es', ep', e', d', _, k'⟩ := y
  rw [e] at e'; cases e'
  rw [d] at d'; cases d'
  exact funext fun z => (k' z).symm.trans (k z)
theorem Rel.change (r : Rel G F W ρ μ s) {c : Addr} {ρ' : Rho} {h' : Heap} {t : Nat} (hc : c ∈ F.env.locals :: F.own) (kp : ∀ b o, b ≠ c → s.heap.get? b = some o → h'.get? b = some o) (hc2 : ∃ o, h'.get? c = some o)
    (hl : ∃ m, h'.Ns F.env.locals m ∧ ∀ (j : Nat) (y : Str), F.vars[j]? = some y → VarOk F W m h' y (look ρ' j)) : Rel G F W ρ' μ { s with heap := h', toks := t } := by
  obtain ⟨p1, p2, p3, p4⟩ := r.priv c hc
  exact ⟨r.wr.at fun b o h e => kp b o (fun q => by
      subst q
      rcases h with h | h | h | h
      · exact h p1
      · exact h p2
      · exact h p3
      · exact p4 h) e,
    r.ok, hl, r.priv, r.pnd, r.cells, r.cnd, fun b hb => by
      by_cases q : b = c
      · rw [q]; exact hc2
      · obtain ⟨o, e⟩ := r.there b hb; exact ⟨o, kp b o q e⟩⟩
theorem Rel.locset (r : Rel G F W ρ μ s) {x : Str} {i : Nat} {od : Option D} {m m' : Str → Option Value} {h' : Heap} {t : Nat} (hi : F.vars[i]? = some x) (hk : F.env.kindOf x = some .local) (hm : s.heap.Ns F.env.locals m) (hn : h'.Ns F.env.locals m') (he : ∀ y, y ≠ x → m' y = m y)
    (sb : Heap.SameBut F.env.locals s.heap h') (hv : ∀ d, od = some d → ∃ v, m' x = some v ∧ V W.π W.φ v d) : Rel G F W (put ρ i od) μ { s with heap := h', toks := t } := by
  obtain ⟨m₀, hm₀, vs⟩ := r.loc
  have e0 := ns_same hm hm₀
  subst e0
  have kp : ∀ b o, b ≠ F.env.locals → s.heap.get? b = some o → h'.get? b = some o := fun b o q e => (sb.2 b q).trans e
  refine r.change (List.mem_cons_self ..) kp (hn.elim fun o zz30 => zz30.elim fun zz zz31 => zz31.elim fun zz zz32 => zz32.elim fun e zz => ⟨o, e⟩) ⟨_, hn, fun j y hy => ?_⟩
  by_cases q : y = x
  · subst q
    cases nodup_at r.ok.nodup hi hy
    exact .inl ⟨hk, fun d' e => hv d' (put_own d' e)⟩
  · rw [put_other fun e => by subst e; rw [hi] at hy; exact q (Option.some.inj hy).symm]
    refine (vs j y hy).imp (fun zz1 => zz1.elim fun a b => ⟨a, fun d' e => (b d' e).elim fun u zz33 => zz33.elim fun e1 e2 => ⟨u, (he y q).trans e1, e2⟩⟩) fun ⟨a, c, o, p, ⟨co, g1, g2⟩, z⟩ => ⟨a, c, o, p, ⟨co, kp c co (fun e => ?_) g1, g2⟩, z⟩
    rcases r.cells _ _ p with h | ⟨o2, h⟩
    · exact (List.nodup_cons.mp r.pnd).1 (e ▸ h)
    · rw [e, (r.priv _ (List.mem_cons_self ..)).1] at h; exact nosome h
theorem Rel.store (r : Rel G F W ρ μ s) {x : Str} {i : Nat} {v : Value} {d : D} {E : Value → Shared → Prop} (hi : F.vars[i]? = some x) (hv : V W.π W.φ v d) (hk : F.env.kindOf x = some .local ∨ (F.env.kindOf x = some .cell ∧ F.isFn = true)) :
    wpAny G.M A (storeName F.env x v) (fun zz s' => Rel G F W (put ρ i (some d)) μ s' ∧ ∀ b o, Out F W b → s.heap.get? b = some o → s'.heap.get? b = some o) E s := by
  obtain ⟨m, hm, vs⟩ := r.loc
  have nd := List.nodup_cons.mp r.pnd
  rcases hk with hk | ⟨hk, hf⟩
  · refine wpAny_storeName_local hk hm (fun h' hn sb => ?_) r.ok.plain
    exact ⟨r.locset hi hk hm hn (fun y q => if_neg q) sb fun d' e => ⟨v, if_pos rfl, Option.some.inj e ▸ hv⟩, fun b o ho e => (sb.2 b fun q => ho.2.2.2.2 (by rw [q]; exact List.mem_cons_self ..)).trans e⟩
  · rcases vs i x hi with ⟨h, _⟩ | ⟨_, c, o, hc, hcell, _⟩
    · rw [hk] at h; cases h
    have hown := r.ok.sto hf x c hk hc
    refine wpAny_storeName_cell r.ok.kind hk hc hcell fun h' hn sb => ?_
    have kp : ∀ b o, b ≠ c → s.heap.get? b = some o → h'.get? b = some o := fun b o q e => (sb.2 b q).trans e
    have hlc : F.env.locals ≠ c := fun e => nd.1 (e ▸ hown)
    refine ⟨r.change (t := s.toks) (List.mem_cons_of_mem _ hown) kp (hn.elim fun o zz34 => zz34.elim fun e zz => ⟨o, e⟩) ⟨m, hm.elim fun o zz35 => zz35.elim fun es zz36 => zz36.elim fun ep zz37 => zz37.elim fun e z => ⟨o, es, ep, kp _ _ hlc e, z⟩, fun j y hy => ?_⟩, fun b o ho e => kp b o (fun q => ho.2.2.2.2 (by rw [q]; exact List.mem_cons_of_mem _ hown)) e⟩
    by_cases q : y = x
    · subst q
      cases nodup_at r.ok.nodup hi hy
      exact .inr ⟨.inl hk, c, _, hc, hn, fun d' e => ⟨v, rfl, Option.some.inj (put_own d' e) ▸ hv⟩⟩
    · rw [put_other fun e => by subst e; rw [hi] at hy; exact q (Option.some.inj hy).symm]
      exact (vs j y hy).imp id fun ⟨a, c2, o, p, ⟨co, g1, g2⟩, z⟩ => ⟨a, c2, o, p, ⟨co, kp c2 co (fun e => q (r.cnd _ _ _ (e ▸ p) hc)) g1, g2⟩, z⟩
theorem assign_name (r : Rel G F W ρ μ s) {x : Str} {i : Nat} {v : Value} {d : D} {p : Pos} {E : Value → Shared → Prop} (hi : F.vars[i]? = some x) (hv : V W.π W.φ v d) (hk : F.env.kindOf x = some .local ∨ (F.env.kindOf x = some .cell ∧ F.isFn = true)) :
    wpAny G.M A (assign (.Name x p) F.env v) (fun zz s' => Rel G F W (put ρ i (some d)) μ s' ∧ ∀ b o, Out F W b → s.heap.get? b = some o → s'.heap.get? b = some o) E s := wpAny_assign_Name (r.store hi hv hk)
noncomputable def quietC (v : Value) : Bool := match v with
  | .type n => !(["enumerate", "zip", "dict_itemiterator", "dict_reverseitemiterator", "odict_iterator", "itertools.zip_longest", "itertools.pairwise"].contains n)
  | _ => true
structure Going (G : GG) (F : Fm) (W : Wd) (h : Heap) (ds : List D) (I : Addr) (fp : List Addr) (P : Nat → Value → Prop) (St : Nat → Heap → Prop) (j : Nat) : Prop where
  walks : ∀ A' : Around, A'.handled = none → Walks PySem.Challenge.pw_ik0060_01 G.w A' I fp [I] ds.length P St
  st : St j h
  ex : ∀ i h, St i h → ∃ o, h.get? I = some o ∧ quietC o.cls = true
  out : Out F W I
  fix : ∀ b ∈ fp, b = I ∨ ∃ o, W.φ b = some o
  val : ∀ i v, i < ds.length → P i v → ∃ d, ds[i]? = some d ∧ V W.π W.φ v d
inductive Src (G : GG) (F : Fm) (W : Wd) (h : Heap) (ds : List D) (it : Value) : Prop
  | mk (I : Addr) (fp : List Addr) (P : Nat → Value → Prop) (St : Nat → Heap → Prop) (hi : it = .ref I) (g : Going G F W h ds I fp P St 0)
theorem Rel.out_new (r : Rel G F W ρ μ s) {a : Addr} (hn : s.heap.get? a = none) : Out F W a := by
  refine ⟨none_of_keep r.wr.ψ hn, none_of_keep r.wr.φ hn, ?_, r.wr.notMut hn, r.not_new hn⟩
  exact r.wr.fsNone hn
theorem src_iter (r : Rel G F W ρ μ s) (a : AOk F W k A) {v : Value} {x : D} {ds : List D} {E : Value → Shared → Prop} (hv : V W.π W.φ v x) (hx : itemsOf x = some ds) :
    wpAny G.M A (pyIter v) (fun it s' => Rel G F W ρ μ s' ∧ Src G F W s'.heap ds it) E s := by
  have grow : ∀ o : Obj, Rel G F W ρ μ { s with heap := s.heap.push o } := fun o => r.keeps (t := s.toks) fun b o e => Heap.get?_push_of_some _ e
  have hn : s.heap.get? s.heap.objs.size = none := push_new (o := default)
  have hout := r.out_new hn
  cases x with
  | list l =>
    cases hx
    obtain ⟨b, us, n, rfl, hl, rl⟩ := hv.listE
    have hne : b ≠ s.heap.objs.size := fun e => by have := r.wr.φ _ _ hl; rw [e, hn] at this; exact nosome this
    refine wpAny_pyIter_list (r.isL hl) ⟨grow _, s.heap.objs.size, _, _, _, rfl, fun A' hA => vsize rl ▸ Walks.list hA s.heap.objs.size b hne us, ⟨⟨_, Heap.get?_push_size _ rfl, rfl, rfl⟩, (grow _).isL hl⟩, fun i h zz16 => zz16.elim fun zz17 zz => zz17.elim fun o zz18 => zz18.elim fun e zz19 => zz19.elim fun c zz => ⟨o, e, by rw [c]; rfl⟩, hout, fun c hc => ?_, fun i u zz hu => ?_⟩
    · rcases List.mem_cons.mp hc with h | h
      · exact .inl h
      · rw [List.mem_singleton.mp h]; exact .inr ⟨_, hl⟩
    · obtain ⟨hi, e⟩ := Array.getElem?_eq_some_iff.mp hu
      obtain ⟨d, hd, vd⟩ := vsAt rl hi
      exact ⟨d, hd, e ▸ vd⟩
  | tup l =>
    cases hx
    obtain ⟨b, us, n, rfl, hl, rl⟩ := hv.tupE
    have hne : b ≠ s.heap.objs.size := fun e => by have := r.wr.φ _ _ hl; rw [e, hn] at this; exact nosome this
    refine wpAny_pyIter_tuple (r.isT hl) ⟨grow _, s.heap.objs.size, _, _, _, rfl, fun A' hA => vsize rl ▸ Walks.tuple hA s.heap.objs.size b hne us, ⟨⟨_, Heap.get?_push_size _ rfl, rfl, rfl⟩, (grow _).isT hl⟩, fun i h zz20 => zz20.elim fun zz21 zz => zz21.elim fun o zz22 => zz22.elim fun e zz23 => zz23.elim fun c zz => ⟨o, e, by rw [c]; rfl⟩, hout, fun c hc => ?_, fun i u zz hu => ?_⟩
    · rcases List.mem_cons.mp hc with h | h
      · exact .inl h
      · rw [List.mem_singleton.mp h]; exact .inr ⟨_, hl⟩
    · obtain ⟨hi, e⟩ := Array.getElem?_eq_some_iff.mp hu
      obtain ⟨d, hd, vd⟩ := vsAt rl hi
      exact ⟨d, hd, e ▸ vd⟩
  | str l =>
    cases hx
    obtain ⟨y, t, rfl, rfl⟩ := hv.strE
    have fin : ∀ (o : Obj) (St : Nat → Heap → Prop), (∀ i h, St i h → ∃ o, h.get? s.heap.objs.size = some o ∧ quietC o.cls = true) → (∀ A' : Around, A'.handled = none → Walks PySem.Challenge.pw_ik0060_01 G.w A' s.heap.objs.size [s.heap.objs.size] [s.heap.objs.size] y.cps.size (SignAt y) St) → St 0 (s.heap.push o) →
        Rel G F W ρ μ { s with heap := s.heap.push o } ∧ Src G F W (s.heap.push o) (y.cps.toList.map fun c => .str [c]) (.ref s.heap.objs.size) := fun o St hf hw h0 => by
      refine ⟨grow o, s.heap.objs.size, _, SignAt y, St, rfl, fun A' hA => ?_, h0, hf, hout, fun c hc => .inl (List.mem_singleton.mp hc), fun i u zz hu => ?_⟩
      · have := hw A' hA
        rw [show y.cps.size = (y.cps.toList.map fun c => D.str [c]).length by simp] at this
        exact this
      · obtain ⟨c, u', hc, hu⟩ := hu
        refine ⟨.str [c], by simp [hc], ?_⟩
        rw [hu]; exact .strI rfl (Nat.le_of_ble_eq_true rfl : 1 ≤ big)
    cases ha : y.cps.all (· < 128)
    · exact wpAny_pyIter_wide ha (fin _ _ (fun i h zz24 => zz24.elim fun o zz25 => zz25.elim fun e zz26 => zz26.elim fun c zz => ⟨o, e, by rw [c]; rfl⟩) (fun A' hA => Walks.strWide hA _ y t) ⟨_, Heap.get?_push_size _ rfl, rfl, rfl⟩)
    · exact wpAny_pyIter_ascii ha (fin _ _ (fun i h zz27 => zz27.elim fun o zz28 => zz28.elim fun e zz29 => zz29.elim fun c zz => ⟨o, e, by rw [c]; rfl⟩) (fun A' hA => Walks.strAscii hA _ y t) ⟨_, Heap.get?_push_size _ rfl, rfl, rfl⟩)
  | _ => exact nosome hx
end
section
variable {G : GG} {F : Fm} {k : Nat} {ρ : Rho} {μ : Mu} {W : Wd} {s : Shared} {A : Around}
inductive SrcQ (G : GG) (F : Fm) (W : Wd) (Q : List D → Rho → Mu → Prop) (it : Value) (s' : Shared) : Prop
  | mk (W' : Wd) (ρ' : Rho) (μ' : Mu) (ds : List D) (le : W.le W') (r : Rel G F W' ρ' μ' s') (sr : Src G F W' s'.heap ds it) (q : Q ds ρ' μ')
noncomputable def SrcW (G : GG) (F : Fm) (k : Nat) (e : Expr) (ρ : Rho) (μ : Mu) (Q : List D → Rho → Mu → Prop) (X : List Nat → Rho → Mu → Prop) : Prop :=
  ∀ W A s, AOk F W k A → Rel G F W ρ μ s → wpAny G.M A (eval e F.env) (fun v s₁ => wpAny G.M A (pyIter v) (SrcQ G F W Q) (PX G F W X) s₁) (PX G F W X) s
variable {Q : List D → Rho → Mu → Prop} {X : List Nat → Rho → Mu → Prop}
theorem src_plain {e : Expr} (h : WG G F k RV ρ μ (eval e F.env) (fun x ρ₁ μ₁ => itemsD' x fun ds => Q ds ρ₁ μ₁) X) : SrcW G F k e ρ μ Q X := fun W A s ha hr =>
  wp2 (.refl W) h ha hr (fun v s1 W1 x ρ1 μ1 le1 a1 r1 v1 q1 => by
    unfold itemsD' at q1
    cases hx : itemsOf x with
    | none => rw [hx] at q1; exact q1.elim
    | some ds =>
      rw [hx] at q1
      exact wpAny_mono (src_iter r1 a1 v1 hx) (fun it s2 zz1 => zz1.elim fun r2 h2 => ⟨W1, ρ1, μ1, ds, le1, r2, h2, q1⟩) fun zz zz p => p) fun zz zz p => p
theorem small_one {n : Int} (h0 : 0 ≤ n) (h1 : n ≤ 1000000) : Builtin.Range.small 0 n 1 = true := by
  unfold Builtin.Range.small Builtin.Range.rangeFitsLong
  rw [rangeSize_one]
  simp
  omega
theorem rangeD_len (n : Int) : (rangeD n).length = n.toNat := by simp [rangeD]
theorem rangeD_at {n : Int} {i : Nat} (h : i < n.toNat) : (rangeD n)[i]? = some (.int (i : Nat)) := by simp [rangeD, h]
theorem range_boot : bootBuiltins "range" = some (.type "range") := by kernel_rfl
theorem src_range {e : Expr} {p p' : Pos} (hk : F.env.kindOf "range" = some .globalImplicit) (hpl : plainB e = true) (h : WG G F k RV ρ μ (eval e F.env) (fun x ρ₁ μ₁ => asI x fun n => (0 ≤ n ∧ n ≤ 1000000) ∧ Q (rangeD n) ρ₁ μ₁) X) :
    SrcW G F k (.Call (.Name "range" p') [e] [] p) ρ μ Q X := fun W A s ha hr => by
  refine Call_ (load_bi hr (by decide +kernel) (by decide +kernel) range_boot hk (by decide +kernel) ?_)
  refine Pv.callWith_type1 (args_cons (wp2 (.refl W) h ha hr (fun v s1 W1 x ρ1 μ1 le1 a1 r1 v1 q1 => ?_) fun zz zz p => p) (star_plain hpl [] F.env)) (star_plain hpl [] F.env) rfl
  refine args_nil ?_
  obtain ⟨n, rfl, ⟨h0, h1⟩, q⟩ := asIE q1
  obtain ⟨t, rfl⟩ := v1.intE
  refine call_range_1 ?_
  have r2 := r1.keeps (t := s1.toks + 1 + 1) fun b o e => Heap.get?_push_of_some { cls := .type "range", data := .fields #[.int 0 s1.toks, .int n t, .int 1 (s1.toks + 1)] } e
  refine wpAny_pyIter_range (IsRange.new _ _ _ _ _ _ _) (small_one h0 h1) ?_
  have sz : Builtin.Range.rangeSize 0 n 1 = n := by rw [rangeSize_one]; split <;> (first | exact ar123 | exact ar124 h0 ‹_›)
  have r3 := r2.keeps (t := s1.toks + 1 + 1) fun b o e => Heap.get?_push_of_some { cls := .type "range_iterator", data := .fields #[rawInt 0, rawInt (Builtin.Range.rangeSize 0 n 1), rawInt 1] } e
  refine ⟨W1, ρ1, μ1, rangeD n, le1, r3, ⟨_, _, _, _, rfl, fun A' hA => by rw [rangeD_len]; exact Walks.range hA _ 0 1 n.toNat, ?_, fun i h e => ⟨_, e, rfl⟩, r2.out_new (push_new (o := default)), fun b hb => .inl (List.mem_singleton.mp hb), fun i v hi hv => ?_⟩, q⟩
  · show IsRangeIter _ _ (0 + ((0 : Nat) : Int) * 1) ((n.toNat : Int) - ((0 : Nat) : Int)) 1
    rw [show (0 : Int) + ((0 : Nat) : Int) * 1 = 0 by simp +arith, show ((n.toNat : Int) - ((0 : Nat) : Int)) = Builtin.Range.rangeSize 0 n 1 by rw [sz]; exact ar125 h0]
    exact Heap.get?_push_size _ rfl
  · obtain ⟨t', rfl⟩ := hv
    rw [rangeD_len] at hi
    rw [show (0 : Int) + (i : Nat) * 1 = (i : Nat) by simp +arith]
    exact ⟨_, rangeD_at hi, .int _ _⟩
end
section
open Classical
variable {G : GG} {F : Fm} {k : Nat} {ρ : Rho} {μ : Mu} {W : Wd} {s : Shared} {A : Around}
noncomputable def heldAt (h : Heap) (l : List Addr) : PMap := fun a => if a ∈ l then h.get? a else none
theorem heldAt_mem {h : Heap} {l : List Addr} {a : Addr} {o : Obj} (e : heldAt h l a = some o) : a ∈ l ∧ h.get? a = some o := by
  unfold heldAt at e
  by_cases q : a ∈ l
  · rw [if_pos q] at e; exact ⟨q, e⟩
  · rw [if_neg q] at e; exact nosome e
theorem heldAt_of {h : Heap} {l : List Addr} {a : Addr} {o : Obj} (q : a ∈ l) (e : h.get? a = some o) : heldAt h l a = some o := by unfold heldAt; rw [if_pos q]; exact e
theorem out_unhold {K : PMap} {W₁ : Wd} (hK : ∀ a o, K a = some o → Out F W a) (le : (hold W K).le W₁) {e : Addr} (h : Out F W₁ e) : Out F (unhold W W₁) e := by
  refine ⟨?_, h.2.1, h.2.2.1, h.2.2.2.1, h.2.2.2.2⟩
  cases q : W.ψ e with
  | none => exact q
  | some o => have := h.1; rw [le.ψ, hold_keep (fun a o e => (hK a o e).1) q] at this; cases this
inductive HQ {α β : Type} (G : GG) (F : Fm) (W : Wd) (R : Wd → α → β → Prop) (Q : β → Rho → Mu → Prop) (l : List Addr) (h : Heap) (x : α) (s' : Shared) : Prop
  | mk (W' : Wd) (b : β) (ρ' : Rho) (μ' : Mu) (le : W.le W') (r : Rel G F W' ρ' μ' s') (hv : R W' x b) (q : Q b ρ' μ') (hk : ∀ c ∈ l, Out F W' c ∧ ∀ o, h.get? c = some o → s'.heap.get? c = some o)
theorem hold_back {α β : Type} {R : Wd → α → β → Prop} {t : Sem α} {Q : β → Rho → Mu → Prop} {X : List Nat → Rho → Mu → Prop} (hR : ∀ W W' a b, R W' a b → R (unhold W W') a b) (l : List Addr)
    (hl : ∀ a ∈ l, Out F W a ∧ ∃ o, s.heap.get? a = some o) (r : Rel G F W ρ μ s) (h : Rel G F (Mine.hold W (heldAt s.heap l)) ρ μ s → wpAny G.M A t (PQ G F (Mine.hold W (heldAt s.heap l)) R Q) (PX G F (Mine.hold W (heldAt s.heap l)) X) s) :
    wpAny G.M A t (HQ G F W R Q l s.heap) (PX G F W X) s := by
  have hK : ∀ a o, heldAt s.heap l a = some o → Out F W a := fun a o e => (hl a (heldAt_mem e).1).1
  refine wpAny_mono (h (r.hold (K := heldAt s.heap l) fun a o e => ⟨(heldAt_mem e).2, hK a o e⟩)) (fun x s' p => ?_) fun x s' p => ?_
  · cases p with
    | mk W' b ρ' μ' le r2 h2 q2 =>
      obtain ⟨r3, le3, h3⟩ := r2.unhold hK r.wr.ground r.cells le
      refine .mk _ b ρ' μ' le3 r3 (hR _ _ _ _ h2) q2 fun c hc => ?_
      obtain ⟨_, o, e⟩ := hl c hc
      obtain ⟨h4, h5⟩ := h3 c o (heldAt_of hc e)
      exact ⟨h5, fun o' e' => by rw [e] at e'; rw [← e']; exact h4⟩
  · cases p with
    | mk W' e msg ρ' μ' le r2 hx h2 q2 =>
      obtain ⟨r3, le3, h3⟩ := r2.unhold hK r.wr.ground r.cells le
      exact .mk _ e msg ρ' μ' le3 r3 hx (h2.mono (fun a h => out_unhold hK le h) false fun zz => rfl) q2
theorem hold_run {α β : Type} {R : Wd → α → β → Prop} {t : Sem α} {Q : β → Rho → Mu → Prop} {X : List Nat → Rho → Mu → Prop} (hR : ∀ W W' a b, R W' a b → R (unhold W W') a b) (h : WG G F k R ρ μ t Q X) (l : List Addr)
    (hl : ∀ a ∈ l, Out F W a ∧ ∃ o, s.heap.get? a = some o) (a : AOk F W k A) (r : Rel G F W ρ μ s) : wpAny G.M A t (HQ G F W R Q l s.heap) (PX G F W X) s :=
  hold_back hR l hl r fun r' => h _ A s (a.ofFs rfl rfl fun b hb => hold_none (by cases q : heldAt s.heap l b with | none => rfl | some o => exact absurd ((hl b (heldAt_mem q).1).1).2.2.1 hb)) r'
theorem RV.unhold (W W' : Wd) (a : Value) (b : D) (h : RV W' a b) : RV (Mine.unhold W W') a b := h
theorem RF.unhold (W W' : Wd) (a : Flow) (b : Fl) (h : RF W' a b) : RF (Mine.unhold W W') a b := by
  cases h with
  | next => exact .next
  | brk => exact .brk
  | cont => exact .cont
  | ret h => exact .ret h
variable {ds : List D} {I : Addr} {fp : List Addr} {P : Nat → Value → Prop} {St : Nat → Heap → Prop} {j : Nat}
theorem Going.move {W' : Wd} {h h' : Heap} (hA : A.handled = none) (g : Going G F W h ds I fp P St j) (le : W.le W') (ho : Out F W' I) (k1 : ∀ o, h.get? I = some o → h'.get? I = some o) (k2 : ∀ b o, W.φ b = some o → h.get? b = some o ∧ h'.get? b = some o) : Going G F W' h' ds I fp P St j where
  walks := g.walks
  st := (g.walks A hA).frame _ _ _ g.st fun b hb o e => by
    rcases g.fix b hb with rfl | ⟨o', q⟩
    · exact k1 o e
    · obtain ⟨e1, e2⟩ := k2 b o' q
      rw [e1] at e; cases e; exact e2
  ex := g.ex
  out := ho
  fix := fun b hb => (g.fix b hb).imp id fun zz1 => zz1.elim fun o e => ⟨o, le.φ _ _ e⟩
  val := fun i v hi hv => (g.val i v hi hv).elim fun d zz2 => zz2.elim fun e1 e2 => ⟨d, e1, e2.up le⟩
inductive GI (G : GG) (F : Fm) (W : Wd) (ρ : Rho) (μ : Mu) (ds : List D) (I : Addr) (fp : List Addr) (P : Nat → Value → Prop) (St : Nat → Heap → Prop) (j : Nat) (h : Heap) (d : D) (x : Option Value) (s' : Shared) : Prop
  | mk (v : Value) (hq : x = some v) (hv : V W.π W.φ v d) (r : Rel G F W ρ μ s') (g : Going G F W s'.heap ds I fp P St (j + 1)) (kp : ∀ b o, b ≠ I → h.get? b = some o → s'.heap.get? b = some o)
theorem Going.item (g : Going G F W s.heap ds I fp P St j) (r : Rel G F W ρ μ s) (ha : A.handled = none) {d : D} (hd : ds[j]? = some d) {E : Value → Shared → Prop} :
    wpAny G.M A (pyNext (.ref I)) (GI G F W ρ μ ds I fp P St j s.heap d) E s := by
  have hj := (List.getElem?_eq_some_iff.mp hd).1
  refine (g.walks A ha).item j s _ E hj g.st fun v h' tk hP hst kp => ?_
  obtain ⟨d', e1, e2⟩ := g.val j v hj hP
  rw [hd] at e1; cases e1
  have kp' : ∀ b o, b ≠ I → s.heap.get? b = some o → h'.get? b = some o := fun b o q e => kp b o (fun z => q (List.mem_singleton.mp z)) e
  exact ⟨v, rfl, e2, r.touch fun b o q e => kp' b o (fun z => q (z ▸ g.out)) e, ⟨g.walks, hst, g.ex, g.out, g.fix, g.val⟩, kp'⟩
theorem Going.done (g : Going G F W s.heap ds I fp P St ds.length) (r : Rel G F W ρ μ s) (ha : A.handled = none) {E : Value → Shared → Prop} :
    wpAny G.M A (pyNext (.ref I)) (fun x s' => x = none ∧ Rel G F W ρ μ s' ∧ ∀ b o, b ≠ I → s.heap.get? b = some o → s'.heap.get? b = some o) E s :=
  (g.walks A ha).done s _ E g.st fun h' tk kp => ⟨rfl, r.touch fun b o q e => kp b o (fun z => q (List.mem_singleton.mp z ▸ g.out)) e, fun b o q e => kp b o (fun z => q (List.mem_singleton.mp z)) e⟩
end
section
open Classical
variable {G : GG} {F : Fm} {k : Nat} {ρ : Rho} {μ : Mu} {W : Wd} {s : Shared} {A : Around}
theorem closure_go (env : Env) : ∀ (names : List (Str × NameKind)) (cs : List (Str × Addr)), (∀ y ∈ names, y.2 = .free → ∃ c, env.cells.lookup y.1 = some c) → (∀ x c, cs.lookup x = some c → env.cells.lookup x = some c) →
    ∃ cl, (forIn names cs (fun y r => if (y.2 == NameKind.free) = true then do let c ← cellOf env y.1; pure (ForInStep.yield ((y.1, c) :: r)) else pure (ForInStep.yield r)) : Sem (List (Str × Addr))) = pure cl ∧
      (∀ x c, cl.lookup x = some c → env.cells.lookup x = some c) ∧ (∀ x, (cs.lookup x).isSome = true → (cl.lookup x).isSome = true) ∧ ∀ y ∈ names, y.2 = .free → (cl.lookup y.1).isSome = true
  | [], cs, _, hc => ⟨cs, rfl, hc, fun zz h => h, fun zz h => nomatch h⟩
  | y :: r, cs, hf, hc => by
    by_cases e : (y.2 == NameKind.free) = true
    · obtain ⟨c, hcell⟩ := hf y (List.mem_cons_self ..) (eq_of_beq e)
      have hc2 : ∀ x c', ((y.1, c) :: cs).lookup x = some c' → env.cells.lookup x = some c' := fun x c' h => by
        rw [List.lookup_cons] at h
        by_cases q : (x == y.1) = true
        · rw [q] at h; cases h; rw [eq_of_beq q]; exact hcell
        · rw [Bool.eq_false_iff.mpr q] at h; exact hc x c' h
      obtain ⟨cl, h1, h2, h3, h4⟩ := closure_go env r ((y.1, c) :: cs) (fun z hz => hf z (List.mem_cons_of_mem _ hz)) hc2
      refine ⟨cl, ?_, h2, fun x h => h3 x ?_, fun z hz h => ?_⟩
      · rw [List.forIn_cons, if_pos e]
        have : cellOf env y.1 = pure c := by unfold cellOf; rw [hcell]
        rw [this, pure_bind, pure_bind]; exact h1
      · rw [List.lookup_cons]
        cases (x == y.1) with
        | true => rfl
        | false => exact h
      · rcases List.mem_cons.mp hz with rfl | hz
        · refine h3 z.1 ?_
          rw [List.lookup_cons, beq_self_eq_true]; rfl
        · exact h4 z hz h
    · obtain ⟨cl, h1, h2, h3, h4⟩ := closure_go env r cs (fun z hz => hf z (List.mem_cons_of_mem _ hz)) hc
      refine ⟨cl, ?_, h2, h3, fun z hz h => ?_⟩
      · rw [List.forIn_cons, if_neg e, pure_bind]; exact h1
      · rcases List.mem_cons.mp hz with rfl | hz
        · exact absurd (by rw [h]; rfl) e
        · exact h4 z hz h
theorem closure_is (scope : Scope) (env : Env) (h : ∀ y ∈ scope.names, y.2 = .free → ∃ c, env.cells.lookup y.1 = some c) :
    ∃ cl, closureFor scope env = pure cl ∧ (∀ x c, cl.lookup x = some c → env.cells.lookup x = some c) ∧ ∀ y ∈ scope.names, y.2 = .free → ∃ c, cl.lookup y.1 = some c ∧ env.cells.lookup y.1 = some c := by
  obtain ⟨cl, h1, h2, _, h4⟩ := closure_go env scope.names [] h fun x c e => nosome e
  refine ⟨cl, ?_, h2, fun y hy e => ?_⟩
  · unfold closureFor
    have : (forIn scope.names ([] : List (Str × Addr)) (fun (y : Str × NameKind) r => if (y.2 == NameKind.free) = true then do let c ← cellOf env y.1; pure (ForInStep.yield ((y.1, c) :: r)) else pure (ForInStep.yield r)) : Sem (List (Str × Addr))) >>= (fun cs => pure cs) = pure cl := by rw [h1, pure_bind]
    exact this
  · obtain ⟨c, hc⟩ := Option.isSome_iff_exists.mp (h4 y hy e)
    exact ⟨c, hc, h2 _ _ hc⟩
end
section
variable {G : GG} {F : Fm} {k : Nat} {ρ : Rho} {μ : Mu} {W : Wd} {s : Shared} {A : Around}
structure CompSc (sc inner : Sc) (x : Str) : Prop where
  nocell : ∀ y ∈ inner, y.2 ≠ .cell
  loc : ∀ y ∈ inner, y.2 = .local → inner.lookup y.1 = some .local
  free : ∀ y ∈ inner, y.2 = .free → inner.lookup y.1 = some .free ∧ (∃ j, place y.1 (varsOf sc) = some j) ∧ (sc.lookup y.1 = some .cell ∨ sc.lookup y.1 = some .free)
  tgt : inner.lookup x = some .local
  nd : (varsOf inner).Nodup
theorem compOkE {sc inner : Sc} {x : Str} (h : compOk sc inner x = true) : CompSc sc inner x := by
  unfold compOk at h
  rw [Bool.and_eq_true, Bool.and_eq_true, List.all_eq_true, decide_eq_true_eq] at h
  obtain ⟨⟨h1, h2⟩, h3⟩ := h
  have h4 := fun y hy => by have := h1 y hy; rw [Bool.and_eq_true, Bool.and_eq_true] at this; exact this
  refine ⟨fun y hy e => ?_, fun y hy e => ?_, fun y hy e => ?_, eq_of_beq h2, h3⟩
  · have := (h4 y hy).1.1; rw [e] at this; exact absurd this (by decide)
  · have := (h4 y hy).1.2; rw [e] at this
    exact eq_of_beq (by simpa using this)
  · have := (h4 y hy).2; rw [e, Bool.or_eq_true] at this
    rcases this with h | h
    · exact absurd h (by decide)
    · rw [Bool.and_eq_true, Bool.and_eq_true, Bool.or_eq_true] at h
      exact ⟨eq_of_beq h.1.1, Option.isSome_iff_exists.mp h.1.2, h.2.imp eq_of_beq eq_of_beq⟩
noncomputable def relK (env : Env) (x : Str) (k : NameKind) : NameKind := if (k == .free && env.scope.kind == .function && env.kindOf x == some .cell) = true then .cell else k
theorem lookup_map {β γ : Type} (g : Str → β → γ) (x : Str) : ∀ l : List (Str × β), (l.map fun y => (y.1, g y.1 y.2)).lookup x = (l.lookup x).map (g x)
  | [] => rfl
  | y :: r => by
    rw [List.map_cons, List.lookup_cons, List.lookup_cons, lookup_map g x r]
    cases e : (x == y.1) with
    | true => rw [eq_of_beq e]; rfl
    | false => rfl
theorem lookup_rel (env : Env) (x : Str) (names : List (Str × NameKind)) : (names.map fun (n, k) => if (k == NameKind.free && env.scope.kind == .function && env.kindOf n == some .cell) then (n, NameKind.cell) else (n, k)).lookup x = (names.lookup x).map (relK env x) := by
  rw [← lookup_map (relK env)]
  congr 2
  funext y
  show (if _ then _ else _) = (y.1, relK env y.1 y.2)
  unfold relK
  split <;> rfl
noncomputable def compFm (F : Fm) (scope : Scope) (cl : List (Str × Addr)) (C : Addr) : Fm := { env := compEnvC scope cl C F.env, vars := varsOf scope.names, own := [], isFn := false, outer := [] }
theorem comp_kind {scope : Scope} {cl : List (Str × Addr)} {C : Addr} (x : Str) : (compFm F scope cl C).env.kindOf x = (scope.names.lookup x).map (relK F.env x) := lookup_rel _ _ _
theorem comp_sc {scope : Scope} {cl : List (Str × Addr)} {C : Addr} : FmSc (compFm F scope cl C) scope.names where
  vars := rfl
  glob := fun x h => by
    have h : scope.names.lookup x = some .globalImplicit := eq_of_beq h
    rw [comp_kind, h]; rfl
  cf := fun x h => by
    rw [comp_kind]
    rcases h with h | h <;> rw [h]
    · exact .inl rfl
    · by_cases c : (NameKind.free == NameKind.free && F.env.scope.kind == .function && F.env.kindOf x == some .cell) = true
      · exact .inl (congrArg some (if_pos c))
      · exact .inr (congrArg some (if_neg c))
theorem vars_mem {sc : Sc} {x : Str} (h : x ∈ varsOf sc) : ∃ y ∈ sc, y.1 = x ∧ (y.2 = .local ∨ y.2 = .cell ∨ y.2 = .free) := by
  unfold varsOf at h
  obtain ⟨y, hy, rfl⟩ := List.mem_map.mp h
  obtain ⟨h1, h2⟩ := List.mem_filter.mp hy
  refine ⟨y, h1, rfl, ?_⟩
  rw [Bool.or_eq_true, Bool.or_eq_true] at h2
  rcases h2 with (h | h) | h
  · exact .inl (eq_of_beq h)
  · exact .inr (.inl (eq_of_beq h))
  · exact .inr (.inr (eq_of_beq h))
theorem look_map {α : Type} (f : α → Option D) : ∀ (l : List α) (i : Nat) (a : α), l[i]? = some a → look (l.map f) i = f a
  | [], i, a, h => by simp at h
  | b :: r, 0, a, h => by simp at h; subst h; rfl
  | b :: r, i + 1, a, h => look_map f r i a (by simpa using h)
theorem cap_at {sc inner : Sc} {i : Nat} {x : Str} (h : (varsOf inner)[i]? = some x) : look (capRho ρ (capOf sc inner)) i = (if inner.lookup x == some .free then place x (varsOf sc) else none).bind (look ρ) := by
  unfold capRho capOf
  rw [List.map_map]
  exact look_map _ _ _ _ h
theorem comp_rel (r : Rel G F W ρ μ s) {sc : Sc} {scope : Scope} {x : Str} (fsc : FmSc F sc) (c : CompSc sc scope.names x) (hk : scope.kind = .function) {cl : List (Str × Addr)} (hcl : ∀ x c, cl.lookup x = some c → F.env.cells.lookup x = some c)
    (hcl2 : ∀ y ∈ scope.names, y.2 = .free → ∃ c, cl.lookup y.1 = some c ∧ F.env.cells.lookup y.1 = some c) {h' : Heap} {C : Addr} {t : Nat} (hC : s.heap.get? C = none) {m : Str → Option Value} (hn : h'.Ns C m) (kp : ∀ b o, s.heap.get? b = some o → h'.get? b = some o) :
    Rel G (compFm F scope cl C) (inner F W h') (capRho ρ (capOf sc scope.names)) μ { s with heap := h', toks := t } := by
  have r' := r.keeps (t := t) kp
  obtain ⟨o1, o2, o3, o4, o5⟩ := r.out_new hC
  have ne : C ≠ F.env.locals := fun e => o5 (e ▸ List.mem_cons_self ..)
  have no : C ∉ F.own := fun e => o5 (List.mem_cons_of_mem _ e)
  refine ⟨r'.enter, ⟨hk, r.ok.glob, r.ok.bi, c.nd, (fun e => ff_tt e), (fun e => ff_tt e)⟩, ⟨m, hn, fun i y hy => ?_⟩, fun a ha => ?_, by simp [compFm], fun z a e => .inr ?_, fun y z a e1 e2 => r.cnd _ _ _ (hcl _ _ e1) (hcl _ _ e2), fun a ha => nomatch ha⟩
  · obtain ⟨z, hz, rfl, hkind⟩ := vars_mem (List.mem_of_getElem? hy)
    rw [cap_at hy]
    rcases hkind with e | e | e
    · have e2 := c.loc z hz e
      refine .inl ⟨?_, fun d hd => ?_⟩
      · rw [comp_kind, e2]; rfl
      · rw [e2] at hd; exact nosome hd
    · exact absurd e (c.nocell z hz)
    · obtain ⟨e2, ⟨j, hj⟩, e3⟩ := c.free z hz e
      obtain ⟨a, ha, ha2⟩ := hcl2 z hz e
      obtain ⟨mm, _, hv⟩ := r'.loc
      have hv := hv j z.1 (by rw [fsc.vars]; exact place_get hj)
      rcases hv with ⟨q, _⟩ | ⟨_, a', o, q1, q2, q3⟩
      · rcases fsc.cf _ e3 with q' | q' <;> (rw [q'] at q; cases q)
      · rw [ha2] at q1; cases q1
        refine .inr ⟨comp_sc.cf z.1 (.inr e2), a, o, ha, q2, fun d hd => ?_⟩
        rw [e2, hj] at hd
        exact q3 d hd
  · rw [List.mem_singleton.mp ha]
    refine ⟨?_, o2, ?_, o4⟩
    · exact (show (inner F W h').ψ C = W.ψ C from if_neg no).trans o1
    · exact (show (inner F W h').fs C = W.fs C from if_neg ne).trans o3
  · rcases r.cells _ _ (hcl _ _ e) with h | ⟨o, h⟩
    · obtain ⟨o, e⟩ := r'.there a h
      exact ⟨o, by rw [inner_own h]; exact e⟩
    · exact ⟨o, inner_ψ r.priv h⟩
end
section
variable {G : GG} {F : Fm} {k : Nat} {ρ : Rho} {μ : Mu} {W : Wd} {s : Shared} {A : Around}
noncomputable abbrev testsOf (ifs : List Expr) (env : Env) : Sem Bool := forIn ifs true fun c r => if r = true then do let ok ← isTrue c env (eval c env); pure (ForInStep.yield ok) else pure (ForInStep.yield r)
theorem put_put (i : Nat) (a b : Option D) : ∀ (ρ : Rho) (i : Nat), put (put ρ i a) i b = put ρ i b
  | [], i => rfl
  | c :: r, 0 => rfl
  | c :: r, i + 1 => by show c :: put (put r i a) i b = _; rw [put_put i a b r i]; rfl
theorem optsD_append : ∀ (as : List (Option D)) (b : Option D), optsD (as ++ [b]) = optsD as ++ optsD [b]
  | [], b => rfl
  | some d :: r, b => by show d :: optsD (r ++ [b]) = _; rw [optsD_append r b]; rfl
  | none :: r, b => optsD_append r b
theorem optsD_le : ∀ as : List (Option D), (optsD as).length ≤ as.length
  | [] => Nat.le_refl _
  | some d :: r => Nat.succ_le_succ (optsD_le r)
  | none :: r => Nat.le_trans (optsD_le r) (Nat.le_succ _)
inductive CLI (G : GG) (F : Fm) (W : Wd) (ds : List D) (I D₀ : Addr) (fp : List Addr) (P : Nat → Value → Prop) (St : Nat → Heap → Prop) (t : Nat) (ρ₀ : Rho) (step : D → Mu → (Option D → Mu → Prop) → Prop) (Qf : List (Option D) → Mu → Prop) (n : Nat) (s' : Shared) : Prop
  | mk (j : Nat) (W' : Wd) (ρ' : Rho) (μ' : Mu) (ys : Array Value) (m : Nat) (as : List (Option D)) (hj : ds.length = j + n) (le : W.le W') (r : Rel G F W' ρ' μ' s') (hput : ∀ d, put ρ' t (some d) = put ρ₀ t (some d)) (g : Going G F W' s'.heap ds I fp P St j) (hD : Out F W' D₀)
    (hDo : s'.heap.get? D₀ = some (listO ys m)) (hys : Vs W'.π W'.φ ys.toList (optsD as)) (hlen : as.length = j) (hs : seqC step (ds.drop j) μ' fun bs => Qf (as ++ bs))
theorem comp_loop {elt iter : Expr} {x : Str} {px pos : Pos} {ifs : List Expr} {scope : Scope} {ds : List D} {I D₀ : Addr} {fp : List Addr} {P : Nat → Value → Prop} {St : Nat → Heap → Prop} {t : Nat} {R : Result → Shared → Prop}
    {step : D → Mu → (Option D → Mu → Prop) → Prop} {ρ₀ : Rho} {Qf : List (Option D) → Mu → Prop} {n₀ : Nat}
    (hx : F.vars[t]? = some x) (hkx : F.env.kindOf x = some .local)
    (hstep : ∀ d μ' K, step d μ' K → WG G F k RE (put ρ₀ t (some d)) μ' (testsOf ifs F.env) (fun ok ρ₃ μ₃ => ρ₃ = put ρ₀ t (some d) ∧ (ok = true → WG G F k RV ρ₃ μ₃ (eval elt F.env) (Un (put ρ₀ t (some d)) fun y => K (some y)) fun zz zz zz => False) ∧ (ok = false → K none μ₃)) fun zz zz zz => False)
    (hz : ds.length ≤ 1000000) (a : AOk F W k A) (r : Rel G F W ρ₀ μ s) (g : Going G F W s.heap ds I fp P St 0) (hD : Out F W D₀) (hDo : s.heap.get? D₀ = some (listO #[] n₀)) (hne : D₀ ≠ I) (hseq : seqC step ds μ Qf)
    (hR : ∀ W' ρ' μ' s' ys n as, W.le W' → Rel G F W' ρ' μ' s' → Out F W' D₀ → s'.heap.get? D₀ = some (listO ys n) → ys.size ≤ 1000000 → Vs W'.π W'.φ ys.toList (optsD as) → Qf as μ' → R (.ok .next) s') :
    codeAny G.M A (.compLoop (.ListComp elt [⟨.Name x px, iter, ifs, 0⟩] scope pos) 0 (.ref I) (.ref D₀) F.env) R s := by
  have hA := a.handled
  refine codeAny_compLoop_tests (I := CLI G F W ds I D₀ fp P St t ρ₀ step Qf) (fun n s' hI => ?_) ds.length ⟨0, W, ρ₀, μ, #[], n₀, [], by simp +arith, .refl W, r, fun zz => rfl, g, hD, hDo, .nil, rfl, hseq⟩
  obtain ⟨j, W', ρ', μ', ys, m, as, hj, le, r', hput, g', hD', hDo', hys, hlen, hs⟩ := hI
  have hys2 : ys.size ≤ 1000000 := by
    have := optsD_le as
    rw [← Array.length_toList, hys.length]; exact ar116 hz hj hlen this
  cases n with
  | zero =>
    have ej : j = ds.length := by exact ar117 hj
    subst ej
    refine wpAny_mono (g'.done r' hA) (fun q s1 zz1 => zz1.elim fun hq zz2 => zz2.elim fun r1 kp => ?_) fun zz zz h => h
    subst hq
    rw [List.drop_length] at hs
    exact hR _ _ _ _ ys m _ le r1 hD' (kp _ _ hne hDo') hys2 hys (by simpa [seqC] using hs)
  | succ n =>
    have hjl : j < ds.length := by exact ar118 hj
    have hd : ds[j]? = some ds[j] := List.getElem?_eq_getElem hjl
    rw [List.drop_eq_getElem_cons hjl] at hs
    have hs : step ds[j] μ' fun b μ₃ => seqC step (ds.drop (j + 1)) μ₃ fun bs => Qf (as ++ b :: bs) := hs
    refine wpAny_mono (g'.item r' hA hd) (fun q s1 h => ?_) fun zz zz h => h
    obtain ⟨v, rfl, hv, r1, g1, kp⟩ := h
    have hDo1 := kp _ _ hne hDo'
    refine wpAny_mono (assign_name r1 hx hv (.inl hkx)) (fun zz s2 zz8 => zz8.elim fun r2 kp2 => ?_) fun zz zz h => h
    rw [hput] at r2
    have φk : ∀ {Wa Wb : Wd} {sa sb : Shared} {ρa ρb : Rho} {μa μb : Mu}, Wa.le Wb → Rel G F Wa ρa μa sa → Rel G F Wb ρb μb sb → ∀ b o, Wa.φ b = some o → sa.heap.get? b = some o ∧ sb.heap.get? b = some o := fun le ra rb b o e => ⟨ra.wr.φ b o e, rb.wr.φ b o (le.φ b o e)⟩
    have g2 := g1.move hA (.refl W') g1.out (fun o e => kp2 _ _ g1.out e) (φk (.refl W') r1 r2)
    have hDo2 := kp2 _ _ hD' hDo1
    obtain ⟨oI, eI, _⟩ := g2.ex _ _ g2.st
    have a' := a.up le
    refine wpAny_mono (hold_run (fun zz zz zz zz h => h) (hstep _ _ _ hs) [I, D₀] (fun b hb => ?_) a' r2) (fun ok s3 h => ?_) fun e s' p => by cases p with | mk _ _ _ _ _ _ _ _ _ hf => exact hf.elim
    · rcases List.mem_cons.mp hb with rfl | hb
      · exact ⟨g2.out, _, eI⟩
      · rw [List.mem_singleton.mp hb]; exact ⟨hD', _, hDo2⟩
    obtain ⟨W3, b, ρ3, μ3, le3, r3, hb, q, h3⟩ := h
    cases (show ok = b from hb)
    obtain ⟨eρ, q1, q2⟩ := q
    obtain ⟨hI3, kI3⟩ := h3 I (List.mem_cons_self ..)
    obtain ⟨hD3, kD3⟩ := h3 D₀ (List.mem_cons_of_mem _ (List.mem_singleton.mpr rfl))
    have g3 := g2.move hA le3 hI3 kI3 (φk le3 r2 r3)
    have hDo3 := kD3 _ hDo2
    cases ok with
    | false =>
      rw [if_neg Bool.false_ne_true]
      refine ⟨n, by exact Nat.le_refl _, j + 1, W3, ρ3, μ3, ys, m, as ++ [none], by exact ar119 hj, le.trans le3, r3, fun d => by rw [eρ, put_put t], g3, hD3, hDo3, ?_, by rw [List.length_append, hlen]; rfl, ?_⟩
      · rw [optsD_append]; show Vs _ _ _ (optsD as ++ []); rw [List.append_nil]; exact hys.up le3
      · have := q2 rfl; simpa [List.append_assoc] using this
    | true =>
      rw [if_pos rfl]
      obtain ⟨oI3, eI3, _⟩ := g3.ex _ _ g3.st
      have q1 := q1 rfl
      rw [eρ] at q1 r3
      refine wpAny_mono (hold_run RV.unhold q1 [I, D₀] (fun b hb => ?_) (a'.up le3) r3) (fun u s4 h => ?_) fun e s' p => by cases p with | mk _ _ _ _ _ _ _ _ _ hf => exact hf.elim
      · rcases List.mem_cons.mp hb with rfl | hb
        · exact ⟨hI3, _, eI3⟩
        · rw [List.mem_singleton.mp hb]; exact ⟨hD3, _, hDo3⟩
      obtain ⟨W4, b, ρ4, μ4, le4, r4, hu, q, h4⟩ := h
      obtain ⟨eρ4, q4⟩ := q
      obtain ⟨hI4, kI4⟩ := h4 I (List.mem_cons_self ..)
      obtain ⟨hD4, kD4⟩ := h4 D₀ (List.mem_cons_of_mem _ (List.mem_singleton.mpr rfl))
      have g4 := g3.move hA le4 hI4 kI4 (φk le4 r3 r4)
      have hDo4 := kD4 _ hDo3
      refine call_meets PySem.F.slot_list_append ⟨_, hDo4, rfl⟩ PySem.F.entry_list_append (PySem.F.args_list_append_2 _ _) (PySem.list_append D₀ ys m u (sizeLine_ge hys2)) ⟨hDo4, ?_⟩
      have kp5 : ∀ b o, b ≠ D₀ → s4.heap.get? b = some o → (s4.heap.update D₀ (Obj.mapSeq fun xs => xs.push u)).get? b = some o := upd_same
      have r5 : Rel G F W4 ρ4 μ4 { s4 with heap := s4.heap.update D₀ (Obj.mapSeq fun xs => xs.push u) } := r4.touch (t := s4.toks) fun b o q e => kp5 b o (fun z => q (z ▸ hD4)) e
      refine ⟨n, by exact Nat.le_refl _, j + 1, W4, ρ4, μ4, ys.push u, _, as ++ [some b], by exact ar119 hj, (le.trans le3).trans le4, r5, fun d => by rw [eρ4, put_put t], g4.move hA (.refl W4) hI4 (fun o e => kp5 _ _ (Ne.symm hne) e) (φk (.refl W4) r4 r5), hD4, Heap.get?_update_self _ hDo4 rfl, ?_, by rw [List.length_append, hlen]; rfl, ?_⟩
      · rw [Array.toList_push, optsD_append]
        exact (hys.up (le3.trans le4)).append (.cons hu .nil)
      · simpa [List.append_assoc] using q4
end
section
variable {G : GG} {F : Fm} {k : Nat} {ρ : Rho} {μ : Mu} {W : Wd} {s : Shared} {A : Around}
theorem comp_aok (r : Rel G F W ρ μ s) (a : AOk F W k A) {scope : Scope} {cl : List (Str × Addr)} {C : Addr} : AOk (compFm F scope cl C) (inner F W s.heap) k A where
  handled := a.handled
  depth := a.depth
  units := a.units
  frames := by
    obtain ⟨l, e, h⟩ := (r.enterB a).frames
    refine ⟨l, e, (fun q => nomatch q), fun x hx => ?_⟩
    obtain ⟨h1, b, h2, h3⟩ := h x hx
    exact ⟨h1, b, h2, h3.elim (fun q => nomatch q) .inr⟩
end
section
variable {G : GG} {F : Fm} {k : Nat} {ρ : Rho} {μ : Mu} {W : Wd} {s : Shared} {A : Around}
theorem out_comp {a C : Addr} {h : Heap} {scope : Scope} {cl : List (Str × Addr)} (ho : Out F W a) (hne : a ≠ C) : Out (compFm F scope cl C) (inner F W h) a := by
  obtain ⟨p, q, x, y, z⟩ := ho
  refine ⟨(show (inner F W h).ψ a = W.ψ a from if_neg fun e => z (List.mem_cons_of_mem _ e)).trans p, q, (show (inner F W h).fs a = W.fs a from if_neg fun e => z (by rw [e]; exact List.mem_cons_self ..)).trans x, y, fun e => hne (List.mem_singleton.mp e)⟩
theorem lc_core {elt it : Expr} {x : Str} {px pos p0 : Pos} {ifs : List Expr} {scope : Scope} {t : Nat} {sc : Sc} {use : Option (Value → Sem Unit)} {Q : Value → Shared → Prop} {X : List Nat → Rho → Mu → Prop}
    {step : D → Mu → (Option D → Mu → Prop) → Prop} {Qf : List (Option D) → Mu → Prop} (m : Bool)
    (hs : ∀ v, foldedSetIterable it F.env v = pure v) (fsc : FmSc F sc) (c : CompSc sc scope.names x) (hk : scope.kind = .function) (ht : place x (varsOf scope.names) = some t)
    (hstep : ∀ F' : Fm, FmSc F' scope.names → ∀ d μ' K, step d μ' K → WG G F' k RE (put (capRho ρ (capOf sc scope.names)) t (some d)) μ' (testsOf ifs F'.env)
      (fun ok ρ₃ μ₃ => ρ₃ = put (capRho ρ (capOf sc scope.names)) t (some d) ∧ (ok = true → WG G F' k RV ρ₃ μ₃ (eval elt F'.env) (Un (put (capRho ρ (capOf sc scope.names)) t (some d)) fun y => K (some y)) fun zz zz zz => False) ∧ (ok = false → K none μ₃)) fun zz zz zz => False)
    (hsrc : SrcW G F k it ρ μ (fun ds ρ₁ μ₁ => ρ₁ = ρ ∧ ds.length ≤ 1000000 ∧ seqC step ds μ₁ Qf) X) (a : AOk F W k A) (r : Rel G F W ρ μ s)
    (fin : ∀ D C s' as μ' W₂, Qf as μ' → (∃ m, s'.heap.Ns C m) → W.le W₂ → Rel G F W₂ ρ (if m = true then μ' ++ [some (optsD as)] else μ') s' → V W₂.π W₂.φ (.ref D) (if m = true then .mut μ'.length else .list (optsD as)) → Out F W₂ C → compPost G.M A (PX G F W X) use Q (.ref D) C (.ok .next) s') :
    wpAny G.M A (comprehension (.ListComp elt [⟨.Name x px, it, ifs, 0⟩] scope pos) scope F.env p0 (newList []) false (eval it F.env) use) Q (PX G F W X) s := by
  have hfree : ∀ y ∈ scope.names, y.2 = .free → ∃ c, F.env.cells.lookup y.1 = some c := fun y hy e => by
    obtain ⟨e2, ⟨j, hj⟩, e3⟩ := c.free y hy e
    obtain ⟨mm, _, hv⟩ := r.loc
    rcases hv j y.1 (by rw [fsc.vars]; exact place_get hj) with ⟨q, _⟩ | ⟨_, a', o, q1, _⟩
    · rcases fsc.cf _ e3 with q' | q' <;> (rw [q'] at q; cases q)
    · exact ⟨a', q1⟩
  obtain ⟨cl, hclos, hcl, hcl2⟩ := closure_is scope F.env hfree
  refine wpAny_comprehension_free (g := ⟨.Name x px, it, ifs, 0⟩) (gs := []) rfl hs hclos hk c.loc (wpAny_mono (hsrc W A s a r) (fun v s1 h1 => wpAny_mono h1 (fun itv s2 ⟨W1, ρ1, μ1, ds, le1, r1, src, eρ, hz, hq⟩ => ?_) fun zz zz p => p) fun zz zz p => p)
  subst eρ
  obtain ⟨I, fp, P, St, rfl, g⟩ := src
  refine wpAny_newList ?_ (Nat.zero_le _)
  have kD : ∀ b o, s2.heap.get? b = some o → (s2.heap.push (listO #[] 0)).get? b = some o := fun b o e => Heap.get?_push_of_some _ e
  have r3 := r1.keeps (t := s2.toks) kD
  have hDn : s2.heap.get? s2.heap.objs.size = none := push_new (o := default)
  have hDo : (s2.heap.push (listO #[] 0)).get? s2.heap.objs.size = some (listO #[] 0) := Heap.get?_push_size _ rfl
  have oD := r1.out_new hDn
  obtain ⟨oI, eI, _⟩ := g.ex _ _ g.st
  have hDI : s2.heap.objs.size ≠ I := fun e => by rw [← e, hDn] at eI; exact nosome eI
  refine wpAny_newFunctionEnv c.nocell (fun y hy => nomatch hy) (fun h' hn sb => ?_) hk
  generalize hC : (s2.heap.push (listO #[] 0)).objs.size = C at hn sb ⊢
  have hCn : (s2.heap.push (listO #[] 0)).get? C = none := by rw [← hC]; exact push_new (o := default)
  have kC : ∀ b o, (s2.heap.push (listO #[] 0)).get? b = some o → h'.get? b = some o := fun b o e => by
    have hb : b ≠ C := fun q => by rw [q, hCn] at e; exact nosome e
    rw [sb.2 b hb]; exact Heap.get?_push_of_some _ e
  have rin := comp_rel (t := s2.toks + ([] : List (Str × Value)).length) r3 fsc c hk hcl hcl2 hCn hn kC
  have ain := comp_aok (scope := scope) (cl := cl) (C := C) (r3.keeps (t := s2.toks) kC) (a.up le1)
  have hIC : I ≠ C := fun q => by have := kD _ _ eI; rw [q, hCn] at this; exact nosome this
  have hDC : s2.heap.objs.size ≠ C := fun q => by rw [q, hCn] at hDo; exact nosome hDo
  have gin : Going G (compFm F scope cl C) (inner F W1 h') h' ds I fp P St 0 := ⟨g.walks, (g.walks A a.handled).frame _ _ _ g.st fun b zz o e => kC _ _ (kD _ _ e), g.ex, out_comp g.out hIC, g.fix, g.val⟩
  have hvx : (compFm F scope cl C).vars[t]? = some x := place_get ht
  have loop := comp_loop (F := compFm F scope cl C) (elt := elt) (iter := it) (px := px) (pos := pos) (scope := scope) (R := compPost G.M A (PX G F W X) use Q (.ref s2.heap.objs.size) C) hvx (by rw [comp_kind, c.tgt]; rfl)
    (hstep _ comp_sc) hz ain rin gin (out_comp oD hDC) (kC _ _ hDo) hDI hq fun W' ρ' μ' s' ys n as le' r' oD' hDo' hz' hv hQf => by
      have hCp := r'.priv _ (List.mem_cons_self ..)
      have oC : OutW W' C := hCp
      obtain ⟨mm, hNs, _⟩ := r'.loc
      cases m with
      | false =>
        obtain ⟨w2, le2⟩ := r'.wr.freezeAt oD'.1 oD'.2.1 oD'.2.2.1 oD'.2.2.2.1 hDo'
        have le3 := le'.trans le2
        obtain ⟨r4, le4⟩ := Rel.leave (r3.keeps (t := s2.toks) kC) le3 w2
        refine fin _ C s' as μ' _ hQf ⟨mm, hNs⟩ (le1.trans le4) r4 (.list (PMap.set_at _ _ _) (by unfold big; exact ar72 hz') (hv.up le2)) (Rel.out (r3.keeps (t := s2.toks) kC) le3 ⟨oC.1, PMap.set_none oC.2.1 (Ne.symm hDC), oC.2.2.1, oC.2.2.2⟩)
      | true =>
        obtain ⟨w2, le2⟩ := r'.wr.openAt oD'.1 oD'.2.1 oD'.2.2.1 oD'.2.2.2.1 hDo' (by unfold big; exact ar72 hz') hv
        have le3 := le'.trans le2
        obtain ⟨r4, le4⟩ := Rel.leave (r3.keeps (t := s2.toks) kC) le3 w2
        refine fin _ C s' as μ' _ hQf ⟨mm, hNs⟩ (le1.trans le4) r4 (.mut (by show (W'.π ++ _)[_]? = _; rw [← r'.wr.len]; simp)) (Rel.out (r3.keeps (t := s2.toks) kC) le3 ⟨oC.1, oC.2.1, oC.2.2.1, fun q => ?_⟩)
        rcases List.mem_append.mp q with q | q
        · exact oC.2.2.2 q
        · exact hDC (List.mem_singleton.mp q).symm
  exact codeAny_compStart_list loop ((g.walks A a.handled).self 0 _ _ _ gin.st loop)
end
section
variable {G : GG} {F : Fm} {k : Nat} {ρ : Rho} {μ : Mu} {W : Wd} {s : Shared} {A : Around}
theorem r_lc {elt it : Expr} {x : Str} {px pos : Pos} {ifs : List Expr} {scope : Scope} {t : Nat} {sc : Sc} {QM : D → Mu → Prop} {X : List Nat → Rho → Mu → Prop} {step : D → Mu → (Option D → Mu → Prop) → Prop} (m : Bool)
    (hs : ∀ v, foldedSetIterable it F.env v = pure v) (fsc : FmSc F sc) (c : CompSc sc scope.names x) (hk : scope.kind = .function) (ht : place x (varsOf scope.names) = some t)
    (hstep : ∀ F' : Fm, FmSc F' scope.names → ∀ d μ' K, step d μ' K → WG G F' k RE (put (capRho ρ (capOf sc scope.names)) t (some d)) μ' (testsOf ifs F'.env)
      (fun ok ρ₃ μ₃ => ρ₃ = put (capRho ρ (capOf sc scope.names)) t (some d) ∧ (ok = true → WG G F' k RV ρ₃ μ₃ (eval elt F'.env) (Un (put (capRho ρ (capOf sc scope.names)) t (some d)) fun y => K (some y)) fun zz zz zz => False) ∧ (ok = false → K none μ₃)) fun zz zz zz => False)
    (hsrc : SrcW G F k it ρ μ (fun ds ρ₁ μ₁ => ρ₁ = ρ ∧ ds.length ≤ 1000000 ∧ seqC step ds μ₁ fun as μ₂ => if m = true then QM (.mut μ₂.length) (μ₂ ++ [some (optsD as)]) else QM (.list (optsD as)) μ₂) X) :
    WG G F k RV ρ μ (eval (.ListComp elt [⟨.Name x px, it, ifs, 0⟩] scope pos) F.env) (Un ρ QM) X := fun W A s a r => by
  rw [eval_ListComp]
  refine lc_core m hs fsc c hk ht hstep hsrc a r fun D C s' as μ' W₂ hq hN le r2 hv hC => ?_
  obtain ⟨mm, hN⟩ := hN
  refine ⟨mm, hN, fun h' sb => ⟨W₂, _, ρ, _, le, r2.touch (t := s'.toks) fun b o q e => (sb.2 b fun z => q (z ▸ hC)).trans e, hv, rfl, ?_⟩⟩
  cases m with
  | true => exact hq
  | false => exact hq
theorem tests_nil {QB : Bool → Rho → Mu → Prop} {X : List Nat → Rho → Mu → Prop} (h : QB true ρ μ) : WG G F k RE ρ μ (testsOf [] F.env) QB X := fun W A s a r => wpAny_pure (.b r h)
theorem tests_one {c : Expr} {QB : Bool → Rho → Mu → Prop} {X : List Nat → Rho → Mu → Prop} (h : WG G F k RE ρ μ (isTrue c F.env (eval c F.env)) QB X) : WG G F k RE ρ μ (testsOf [c] F.env) QB X := fun W A s a r => wpAny_tests_one (h W A s a r)
noncomputable def SndE (G : GG) (k : Nat) (pe : PE) (e : Expr) (sc : Sc) : Prop := ∀ (F : Fm) (ρ : Rho) (μ : Mu) (Q : D → Mu → Prop) (X : List Nat → Mu → Prop), FmSc F sc → vcE G k pe ρ μ Q X → WG G F k RV ρ μ (eval e F.env) (Un ρ Q) (Un ρ X)
noncomputable def SndC (G : GG) (k : Nat) (pe : PE) (e : Expr) (sc : Sc) : Prop := ∀ (F : Fm) (ρ : Rho) (μ : Mu) (Q : Bool → Mu → Prop) (X : List Nat → Mu → Prop), FmSc F sc → vcC G k pe ρ μ Q X → WG G F k RE ρ μ (isTrue e F.env (eval e F.env)) (Un ρ Q) (Un ρ X)
variable {Q : D → Mu → Prop} {X : List Nat → Mu → Prop}
theorem whenE {c : Bool} {pe : PE} (h : vcE G k (when c pe) ρ μ Q X) : c = true ∧ vcE G k pe ρ μ Q X := by
  cases c with
  | true => exact ⟨rfl, h⟩
  | false => exact h.elim
theorem seqWG {α β : Type} {R : Wd → α → β → Prop} {t : Sem α} {P : β → Mu → Prop} {P' : β → Rho → Mu → Prop} (h : WG G F k R ρ μ t (Un ρ P) (Un ρ X)) (hp : ∀ b μ', P b μ' → P' b ρ μ') : WG G F k R ρ μ t P' (Un ρ X) :=
  h.mono (fun b ρ' μ' zz1 => zz1.elim fun e q => by subst e; exact hp b μ' q) fun zz zz zz q => q
variable {rec : Sc → Nat → Expr → PE} {sc : Sc}
theorem snd_es (H : ∀ sc m e, SndE G k (rec sc m e) e sc) (m : Nat) {p : Pos} : ∀ (es : List Expr) (F : Fm) (ρ : Rho) (μ : Mu) (Q : List D → Mu → Prop) (X : List Nat → Mu → Prop), FmSc F sc → es.all plainB = true → vcEs G k (es.map (rec sc m)) ρ μ Q X → WG G F k RVs ρ μ (evs p es F.env) (Un ρ Q) (Un ρ X)
  | [], F, ρ, μ, Q, X, hF, _, h => es_nil ⟨rfl, h⟩
  | e :: es, F, ρ, μ, Q, X, hF, hp, h => by
    rw [List.all_cons, Bool.and_eq_true] at hp
    refine es_cons (star_plain hp.1 es F.env) (seqWG (H sc m e F ρ μ _ X hF h) fun d μ' q => ?_)
    exact (snd_es H m es F ρ μ' _ X hF hp.2 q).mono (fun b ρ' μ'' q => q) fun zz zz zz q => q
end
section
variable {G : GG} {F : Fm} {k : Nat} {ρ : Rho} {μ : Mu} {W : Wd} {s : Shared} {A : Around} {Q : D → Mu → Prop} {X : List Nat → Mu → Prop} {rec : Sc → Nat → Expr → PE} {sc : Sc}
theorem snd_const {c : Const} {n : Nat} {p : Pos} (h : vcE G k (constPE c) ρ μ Q X) : WG G F k RV ρ μ (eval (.Constant c n p) F.env) (Un ρ Q) (Un ρ X) := by
  cases c with
  | int i => exact r_int ⟨rfl, h⟩
  | str x => obtain ⟨h1, h⟩ := whenE h; exact r_str (of_decide_eq_true h1) ⟨rfl, h⟩
  | none => exact r_none ⟨rfl, h⟩
  | bool b => exact r_bool ⟨rfl, h⟩
  | _ => exact h.elim
theorem snd_name {x : Str} {p : Pos} (hF : FmSc F sc) (h : vcE G k (when (!(x == ("__debug__" : Str)) && !(x == ("__classdict__" : Str))) (namePE sc x (place x (varsOf sc)))) ρ μ Q X) : WG G F k RV ρ μ (eval (.Name x p) F.env) (Un ρ Q) (Un ρ X) := by
  obtain ⟨h1, h⟩ := whenE h
  rw [Bool.and_eq_true, Bool.not_eq_true', Bool.not_eq_true'] at h1
  revert h
  cases hp : place x (varsOf sc) with
  | some i =>
    intro h
    cases hl : look ρ i with
    | none => change (match look ρ i with | some d => Q d μ | none => False) at h; rw [hl] at h; exact h.elim
    | some d => change (match look ρ i with | some d => Q d μ | none => False) at h; rw [hl] at h; exact r_loc (hF.at hp) hl h1.1 h1.2 ⟨rfl, h⟩
  | none =>
    intro h
    obtain ⟨h2, h⟩ := whenE h
    revert h
    cases ht : tyNames.lookup x with
    | none => exact fun h => h.elim
    | some n => exact fun h => r_ty ht (hF.glob x h2) ⟨rfl, h⟩
theorem snd_bin {l r : Expr} {op : Operator} {p : Pos} (H : ∀ sc m e, SndE G k (rec sc m e) e sc) (hF : FmSc F sc) (h : vcE G k (binPE (trOp op) (rec sc 0 l) (rec sc 0 r)) ρ μ Q X) : WG G F k RV ρ μ (eval (.BinOp l op r p) F.env) (Un ρ Q) (Un ρ X) := by
  revert h
  cases ho : trOp op with
  | none => exact fun h => h.elim
  | some o =>
    intro h
    rw [trOpE ho]
    exact r_bin (seqWG (H sc 0 l F ρ μ _ X hF h) fun x μ₁ h => seqWG (H sc 0 r F ρ μ₁ _ X hF h) fun y μ₂ h => by rw [un1]; exact h)
theorem cmpE {l : Expr} {rs : List Expr} {ops : List CmpOp} {P : PE → Prop} (hbad : ¬ P .bad) (h : P (cmpPE rec sc l rs ops)) : ∃ o r, ops = [copOp o] ∧ rs = [r] ∧ behindInMarks (copOp o) r = false ∧ P (.cmp o (rec sc 0 l) (rec sc 0 r)) := by
  cases ops with
  | nil => exact absurd h hbad
  | cons op t => cases t with
    | cons _ _ => exact absurd h hbad
    | nil => cases rs with
      | nil => exact absurd h hbad
      | cons b t => cases t with
        | cons _ _ => exact absurd h hbad
        | nil =>
          change P (when (!behindInMarks op b) _) at h
          revert h
          cases hb : behindInMarks op b with
          | true => exact fun h => absurd h hbad
          | false => exact fun h => ⟨trCmp op, b, by rw [copE], rfl, by rw [copE]; exact hb, h⟩
theorem c_of_e {e : Expr} {pe : PE} {QB : Bool → Mu → Prop} (hS : SndE G k pe e sc) (hF : FmSc F sc) (he : ∀ wh, isTrue e F.env wh = (do let v ← wh; standAt e.pos; holding [v] (truthy v))) (h : vcE G k pe ρ μ (fun d μ' => vcTruth d μ' fun t => QB t μ') X) :
    WG G F k RE ρ μ (isTrue e F.env (eval e F.env)) (Un ρ QB) (Un ρ X) :=
  c_plain he (seqWG (hS F ρ μ _ X hF h) fun d μ' q => by rw [un1]; exact q)
theorem snd_ite {c a b : Expr} {p : Pos} (H : ∀ sc m e, SndE G k (rec sc m e) e sc) (HC : ∀ sc m e, SndC G k (rec sc m e) e sc) (hF : FmSc F sc) (h : vcE G k (.ite (rec sc 0 c) (rec sc 0 a) (rec sc 0 b)) ρ μ Q X) : WG G F k RV ρ μ (eval (.IfExp c a b p) F.env) (Un ρ Q) (Un ρ X) :=
  r_ite ((HC sc 0 c F ρ μ _ X hF h).mono (fun t ρ' μ' zz1 => zz1.elim fun e q => by subst e; exact ⟨fun z => H sc 0 a F _ μ' Q X hF (q.1 z), fun z => H sc 0 b F _ μ' Q X hF (q.2 z)⟩) fun zz zz zz q => q)
theorem snd_sub {o i : Expr} {p : Pos} (H : ∀ sc m e, SndE G k (rec sc m e) e sc) (hF : FmSc F sc) (h : vcE G k (subPE rec sc o i) ρ μ Q X) : WG G F k RV ρ μ (eval (.Subscript o i p) F.env) (Un ρ Q) (Un ρ X) := by
  have idx : vcE G k (.idx (rec sc 0 o) (rec sc 0 i)) ρ μ Q X → WG G F k RV ρ μ (eval (.Subscript o i p) F.env) (Un ρ Q) (Un ρ X) := fun h =>
    r_idx (seqWG (H sc 0 o F ρ μ _ X hF h) fun x μ₁ h => seqWG (H sc 0 i F ρ μ₁ _ X hF h) fun y μ₂ h => by rw [un1]; exact h)
  cases i with
  | Slice lo hi st p' =>
    cases lo with
    | some lo => cases hi with
      | some hi => cases st with
        | some st => exact h.elim
        | none => exact r_bet (seqWG (H sc 0 o F ρ μ _ X hF h) fun x μ₁ h => seqWG (H sc 0 lo F ρ μ₁ _ X hF h) fun y μ₂ h => seqWG (H sc 0 hi F ρ μ₂ _ X hF h) fun z μ₃ h => by rw [un1]; exact h)
      | none => cases st with
        | some st => exact r_step (seqWG (H sc 0 o F ρ μ _ X hF h) fun x μ₁ h => seqWG (H sc 0 lo F ρ μ₁ _ X hF h) fun y μ₂ h => seqWG (H sc 0 st F ρ μ₂ _ X hF h) fun z μ₃ h => by rw [un1]; exact h)
        | none => exact r_from (seqWG (H sc 0 o F ρ μ _ X hF h) fun x μ₁ h => seqWG (H sc 0 lo F ρ μ₁ _ X hF h) fun y μ₂ h => by rw [un1]; exact h)
    | none => cases hi with
      | some hi => cases st with
        | some st => exact h.elim
        | none => exact r_to (seqWG (H sc 0 o F ρ μ _ X hF h) fun x μ₁ h => seqWG (H sc 0 hi F ρ μ₁ _ X hF h) fun y μ₂ h => by rw [un1]; exact h)
      | none => exact h.elim
  | _ => exact idx h
theorem snd_list {es : List Expr} {m : Nat} {p : Pos} (H : ∀ sc m e, SndE G k (rec sc m e) e sc) (hF : FmSc F sc) (h : vcE G k (when (es.all plainB) (.list (m == 1) (es.map (rec sc (m - 1))))) ρ μ Q X) : WG G F k RV ρ μ (eval (.List es p) F.env) (Un ρ Q) (Un ρ X) := by
  obtain ⟨h1, h⟩ := whenE h
  revert h
  cases (m == 1) with
  | false => exact fun h => r_list (seqWG (snd_es H _ es F ρ μ _ X hF h1 h) fun ds μ₁ h => ⟨h.1, rfl, h.2⟩)
  | true => exact fun h => r_listM (seqWG (snd_es H _ es F ρ μ _ X hF h1 h) fun ds μ₁ h => ⟨h.1, rfl, h.2⟩)
theorem snd_tup {es : List Expr} {n : Nat} {p : Pos} (H : ∀ sc m e, SndE G k (rec sc m e) e sc) (hF : FmSc F sc) (h : vcE G k (when (es.all plainB) (.tup (es.map (rec sc 0)))) ρ μ Q X) : WG G F k RV ρ μ (eval (.Tuple es n p) F.env) (Un ρ Q) (Un ρ X) := by
  obtain ⟨h1, h⟩ := whenE h
  exact r_tup (seqWG (snd_es H _ es F ρ μ _ X hF h1 h) fun ds μ₁ h => ⟨h.1, rfl, h.2⟩)
end
section
variable {G : GG} {F : Fm} {k : Nat} {ρ : Rho} {μ : Mu} {W : Wd} {s : Shared} {A : Around} {Q : D → Mu → Prop} {X : List Nat → Mu → Prop} {rec : Sc → Nat → Expr → PE} {sc : Sc}
noncomputable def RdOk (G : GG) (k : Nat) : Prop := ∀ (F : Fm) (ρ : Rho) (μ : Mu) (o : Expr) (es : List Expr) (p p' : Pos) (QM : D → Rho → Mu → Prop) (X : List Nat → Rho → Mu → Prop), (p'.endLine == p.line) = true → es.length < 20 → callLike o = false → es.all plainB = true →
  WG G F k RV ρ μ (eval o F.env) (fun x ρ₁ μ₁ => meOk k .read x ∧ WG G F k RVs ρ₁ μ₁ (evs p es F.env) (fun ds ρ₂ μ₂ => vcMe .read x ds μ₂ fun d μ₃ => QM d ρ₂ μ₃) X) X → WG G F k RV ρ μ (eval (.Call (.Attribute o "read" p') es [] p) F.env) QM X
theorem snd_me {m : Me} {o : Expr} {name : Str} {es : List Expr} {p p' : Pos} (HR : RdOk G k) (H : ∀ sc m e, SndE G k (rec sc m e) e sc) (hF : FmSc F sc) (hf : meNames.lookup name = some m)
    (hc : (p'.endLine == p.line && decide (es.length < 20) && !callLike o && es.all plainB) = true) (h : vcE G k (.me m (rec sc 0 o) (es.map (rec sc 0))) ρ μ Q X) : WG G F k RV ρ μ (eval (.Call (.Attribute o name p') es [] p) F.env) (Un ρ Q) (Un ρ X) := by
  rw [Bool.and_eq_true, Bool.and_eq_true, Bool.and_eq_true, decide_eq_true_eq, Bool.not_eq_true'] at hc
  obtain ⟨⟨⟨c1, c2⟩, c3⟩, c4⟩ := hc
  have core : WG G F k RV ρ μ (eval o F.env) (fun x ρ₁ μ₁ => meOk k m x ∧ WG G F k RVs ρ₁ μ₁ (evs p es F.env) (fun ds ρ₂ μ₂ => vcMe m x ds μ₂ fun d μ₃ => Un ρ Q d ρ₂ μ₃) (Un ρ X)) (Un ρ X) :=
    seqWG (H sc 0 o F ρ μ _ X hF h) fun x μ₁ h => ⟨h.1, seqWG (snd_es H 0 es F ρ μ₁ _ X hF c4 h.2) fun ds μ₂ h => by rw [un2]; exact h⟩
  by_cases hm : m = .read
  · subst hm
    have hn : name = "read" := (meNames_ok _ (lookup_mem hf)).1
    subst hn
    exact HR F ρ μ o es p p' _ _ c1 c2 c3 c4 core
  · exact r_me hf hm c1 c2 c3 c4 core
theorem fnNames_ok (p : Str × Fn) (hp : p ∈ fnNames) : (p.1 == ("__debug__" : Str)) = false :=
  Bool.not_eq_true' _ ▸ List.all_eq_true.mp (show (fnNames.all fun p => !(p.1 == ("__debug__" : Str))) = true by decide +kernel) p hp
theorem snd_call {f : Expr} {es : List Expr} {kw : List Keyword} {p : Pos} (HR : RdOk G k) (H : ∀ sc m e, SndE G k (rec sc m e) e sc) (hF : FmSc F sc) (hT : ∀ es ρ μ Q X p p', globalIn sc "tuple" = true → vcE G k (mapPE rec sc es) ρ μ Q X → WG G F k RV ρ μ (eval (.Call (.Name "tuple" p') es [] p) F.env) (Un ρ Q) (Un ρ X)) (h0 : vcE G k (when kw.isEmpty (callPE rec sc es p f)) ρ μ Q X) :
    WG G F k RV ρ μ (eval (.Call f es kw p) F.env) (Un ρ Q) (Un ρ X) := by
  obtain ⟨h1, ha⟩ := whenE h0
  have hk : kw = [] := List.isEmpty_iff.mp h1
  subst hk
  clear h0
  cases f with
  | Attribute o name p' =>
    revert ha
    show vcE G k (mePE rec sc o p' es p (meNames.lookup name)) ρ μ Q X → _
    cases hn : meNames.lookup name with
    | none => exact fun h => h.elim
    | some m => intro h; obtain ⟨h2, h⟩ := whenE h; exact snd_me HR H hF hn h2 h
  | Name f p' =>
    obtain ⟨h2, h⟩ := whenE ha
    rw [Bool.and_eq_true, Bool.and_eq_true, Bool.and_eq_true, Bool.not_eq_true'] at h2
    obtain ⟨⟨⟨g1, g2⟩, g3⟩, g4⟩ := h2
    cases es with
    | nil => exact absurd g4 (by decide)
    | cons e es =>
      revert h
      cases hn : fnNames.lookup f with
      | some g => exact fun h => r_call hn (fnNames_ok _ (lookup_mem hn)) (hF.glob f g1) g3 (snd_es H 0 (e :: es) F ρ μ _ X hF g3 h)
      | none =>
        show vcE G k (biPE rec sc f (e :: es) (biNames.lookup f)) ρ μ Q X → _
        cases hb : biNames.lookup f with
        | some b => exact fun h => r_bi hb (hF.glob f g1) g3 (seqWG (snd_es H 0 (e :: es) F ρ μ _ X hF g3 h) fun ds μ₁ h => by rw [un1]; exact h)
        | none =>
          intro h
          obtain ⟨h5, h6⟩ := whenE h
          have := eq_of_beq h5
          subst this
          exact hT _ _ _ _ _ _ _ g1 h6
  | _ => exact ha.elim
theorem snd_tests (HC : ∀ sc m e, SndC G k (rec sc m e) e sc) {ifs : List Expr} (hl : ifs.length ≤ 1) (hF : FmSc F sc) {QB : Bool → Mu → Prop} (h : vcIfs G k (ifs.map (rec sc 0)) ρ μ QB X) : WG G F k RE ρ μ (testsOf ifs F.env) (Un ρ QB) (Un ρ X) := by
  cases ifs with
  | nil => exact tests_nil ⟨rfl, h⟩
  | cons c r => cases r with
    | nil => exact tests_one ((HC sc 0 c F ρ μ _ X hF h).mono (fun t ρ' μ' zz1 => zz1.elim fun e q => ⟨e, by
        cases t with
        | true => exact q.1 rfl
        | false => exact q.2 rfl⟩) fun zz zz zz q => q)
    | cons _ _ => exact absurd hl (by simp)
theorem un_false {α : Type} : Un ρ (fun (_ : α) (_ : Mu) => False) = fun zz zz zz => False := funext fun zz => funext fun zz => funext fun zz => propext ⟨And.right, False.elim⟩
end
section
variable {G : GG} {F : Fm} {k : Nat} {ρ : Rho} {μ : Mu} {W : Wd} {s : Shared} {A : Around} {Q : D → Mu → Prop} {X : List Nat → Mu → Prop} {rec : Sc → Nat → Expr → PE} {sc : Sc}
theorem asNameE {e : Expr} {x : Str} (h : asName e = some x) : ∃ p, e = .Name x p := by
  cases e <;> first | (cases h; exact ⟨_, rfl⟩) | exact nosome h
theorem fold_plain {it : Expr} (h : setLike it = false) (env : Env) (v : Value) : foldedSetIterable it env v = pure v := by
  cases it <;> first | rfl | exact absurd h.symm Bool.false_ne_true
theorem callArgE {n : Str} {it e : Expr} (h : callArg n sc it = some e) : ∃ p' p, it = .Call (.Name n p') [e] [] p ∧ globalIn sc n = true ∧ plainB e = true := by
  cases it with
  | Call f es kw p =>
    change (if kw.isEmpty = true then callArg1 sc n (asName f) es else none) = some e at h
    by_cases hk : kw.isEmpty = true
    · rw [if_pos hk] at h
      have hk : kw = [] := List.isEmpty_iff.mp hk
      subst hk
      cases hn : asName f with
      | none => rw [hn] at h; exact nosome h
      | some x =>
        obtain ⟨p', rfl⟩ := asNameE hn
        rw [hn] at h
        change (if _ then _ else _) = _ at h
        by_cases c : (x == n && globalIn sc n && (place n (varsOf sc)).isNone && es.all plainB) = true
        · rw [if_pos c] at h
          rw [Bool.and_eq_true, Bool.and_eq_true, Bool.and_eq_true] at c
          have hx := eq_of_beq c.1.1.1
          subst hx
          cases es with
          | nil => exact nosome h
          | cons a r => cases r with
            | cons _ _ => exact nosome h
            | nil => cases h; exact ⟨_, _, rfl, c.1.1.2, by have := c.2; rw [List.all_cons, Bool.and_eq_true] at this; exact this.1⟩
        · rw [if_neg c] at h; exact nosome h
    · rw [if_neg hk] at h; exact nosome h
  | _ => exact nosome h
theorem snd_src {it : Expr} {K : Bool → PE → PE} {QL : List D → Mu → Prop} (H : ∀ sc m e, SndE G k (rec sc m e) e sc) (hF : FmSc F sc) (hK : ∀ rng p, vcE G k (K rng p) ρ μ Q X → vcE G k p ρ μ (fun x μ₁ => srcD rng x fun ds => QL ds μ₁) X) (h : vcE G k (srcPE rec sc it K) ρ μ Q X) : SrcW G F k it ρ μ (Un ρ QL) (Un ρ X) := by
  revert h
  show vcE G k (match rangeArg sc it with | some e => K true (rec sc 0 e) | none => K false (rec sc 0 it)) ρ μ Q X → _
  cases hr : rangeArg sc it with
  | none => exact fun h => src_plain (seqWG (H sc 0 it F ρ μ _ X hF (hK _ _ h)) fun x μ₁ q => by rw [un1]; exact q)
  | some e =>
    intro h
    obtain ⟨p', p, rfl, hg, hp⟩ := callArgE hr
    refine src_range (hF.glob _ hg) hp (seqWG (H sc 0 e F ρ μ _ X hF (hK _ _ h)) fun x μ₁ q => ?_)
    obtain ⟨n, rfl, h1, h2⟩ := asIE q
    exact ⟨h1, rfl, h2⟩
inductive LcOk (G : GG) (F : Fm) (k : Nat) (sc : Sc) (m : Nat) (elt : Expr) (inner : Scope) (gens : List Comprehension) (ρ : Rho) (μ : Mu) (Q : D → Mu → Prop) (X : List Nat → Mu → Prop) : Prop
  | mk (x : Str) (px : Pos) (it : Expr) (ifs : List Expr) (t : Nat) (step : D → Mu → (Option D → Mu → Prop) → Prop) (hg : gens = [⟨.Name x px, it, ifs, 0⟩]) (hs : ∀ v, foldedSetIterable it F.env v = pure v) (c : CompSc sc inner.names x) (hk : inner.kind = .function) (ht : place x (varsOf inner.names) = some t)
    (hstep : ∀ F' : Fm, FmSc F' inner.names → ∀ d μ' K, step d μ' K → WG G F' k RE (put (capRho ρ (capOf sc inner.names)) t (some d)) μ' (testsOf ifs F'.env)
      (fun ok ρ₃ μ₃ => ρ₃ = put (capRho ρ (capOf sc inner.names)) t (some d) ∧ (ok = true → WG G F' k RV ρ₃ μ₃ (eval elt F'.env) (Un (put (capRho ρ (capOf sc inner.names)) t (some d)) fun y => K (some y)) fun zz zz zz => False) ∧ (ok = false → K none μ₃)) fun zz zz zz => False)
    (hsrc : SrcW G F k it ρ μ (fun ds ρ₁ μ₁ => ρ₁ = ρ ∧ ds.length ≤ 1000000 ∧ seqC step ds μ₁ fun as μ₂ => if (m == 1) = true then Q (.mut μ₂.length) (μ₂ ++ [some (optsD as)]) else Q (.list (optsD as)) μ₂) (Un ρ X))
theorem lc_open {elt : Expr} {gens : List Comprehension} {inner : Scope} {m : Nat} (H : ∀ sc m e, SndE G k (rec sc m e) e sc) (HC : ∀ sc m e, SndC G k (rec sc m e) e sc) (hF : FmSc F sc) (h : vcE G k (lcGens rec sc m elt inner gens) ρ μ Q X) : LcOk G F k sc m elt inner gens ρ μ Q X := by
  cases gens with
  | nil => exact h.elim
  | cons g r => cases r with
    | cons _ _ => exact h.elim
    | nil =>
      obtain ⟨tgt, it, ifs, isa⟩ := g
      revert h
      show vcE G k (match asName tgt with | some x => when (compOk sc inner.names x && inner.kind == .function && isa == 0 && !setLike it) (lcPE rec sc m elt it ifs inner.names (place x (varsOf inner.names))) | none => .bad) ρ μ Q X → _
      cases hn : asName tgt with
      | none => exact fun h => h.elim
      | some x =>
        intro h0
        obtain ⟨p', rfl⟩ := asNameE hn
        obtain ⟨h1, ha⟩ := whenE h0
        clear h0
        rw [Bool.and_eq_true, Bool.and_eq_true, Bool.and_eq_true, Bool.not_eq_true'] at h1
        obtain ⟨⟨⟨g1, g2⟩, g3⟩, g4⟩ := h1
        have g3 := eq_of_beq g3
        subst g3
        revert ha
        cases ht : place x (varsOf inner.names) with
        | none => exact fun h => h.elim
        | some t =>
          intro hb
          obtain ⟨h2, h⟩ := whenE hb
          have hifs := of_decide_eq_true h2
          refine .mk x p' it ifs t (step := fun d μ₂ K => vcIfs G k (ifs.map (rec inner.names 0)) (put (capRho ρ (capOf sc inner.names)) t (some d)) μ₂ (fun ok μ₃ => (ok = true → vcE G k (rec inner.names 0 elt) (put (capRho ρ (capOf sc inner.names)) t (some d)) μ₃ (fun y => K (some y)) (fun zz zz => False)) ∧ (ok = false → K none μ₃)) (fun zz zz => False)) rfl (fold_plain g4 F.env) (compOkE g1) (eq_of_beq g2) ht (fun F' hF' d μ' K hs => ?_) (snd_src H hF (fun rng p h => h) h)
          have := snd_tests HC hifs hF' hs
          rw [un_false] at this
          refine this.mono (fun ok ρ₃ μ₃ zz1 => zz1.elim fun e zz2 => zz2.elim fun q1 q2 => ⟨e, fun z => ?_, q2⟩) fun zz zz zz q => q
          subst e
          have := H inner.names 0 elt F' _ μ₃ _ _ hF' (q1 z)
          rw [un_false] at this
          exact this
theorem snd_lc {elt : Expr} {gens : List Comprehension} {inner : Scope} {m : Nat} {p : Pos} (H : ∀ sc m e, SndE G k (rec sc m e) e sc) (HC : ∀ sc m e, SndC G k (rec sc m e) e sc) (hF : FmSc F sc) (h : vcE G k (lcGens rec sc m elt inner gens) ρ μ Q X) :
    WG G F k RV ρ μ (eval (.ListComp elt gens inner p) F.env) (Un ρ Q) (Un ρ X) := by
  cases lc_open H HC hF h with
  | mk x px it ifs t step hg hs c hk ht hstep hsrc =>
    subst hg
    exact r_lc (m == 1) hs hF c hk ht hstep hsrc
end
section
variable {G : GG} {F : Fm} {k : Nat} {ρ : Rho} {μ : Mu} {W : Wd} {s : Shared} {A : Around} {Q : D → Mu → Prop} {X : List Nat → Mu → Prop} {rec : Sc → Nat → Expr → PE} {sc : Sc}
noncomputable def Pl : PE → Prop
  | .not _ => False
  | .and _ _ => False
  | .or _ _ => False
  | .cmp _ _ _ => False
  | _ => True
theorem Pl.when {c : Bool} {p : PE} (h : Pl p) : Pl (when c p) := by cases c with
  | true => exact h
  | false => trivial
theorem vcC_E {pe : PE} (hp : Pl pe) {QB : Bool → Mu → Prop} (h : vcC G k pe ρ μ QB X) : vcE G k pe ρ μ (fun d μ' => vcTruth d μ' fun t => QB t μ') X := by
  cases pe with
  | loc i =>
    change (match look ρ i with | some d => vcTruth d μ fun t => QB t μ | none => False) at h
    show (match look ρ i with | some d => vcTruth d μ fun t => QB t μ | none => False)
    exact h
  | bool b => exact h
  | bi b as => exact h
  | me m o as => exact h
  | not _ => exact hp.elim
  | and _ _ => exact hp.elim
  | or _ _ => exact hp.elim
  | cmp _ _ _ => exact hp.elim
  | _ => exact h.elim
theorem pl_const (c : Const) : Pl (constPE c) := by cases c <;> first | trivial | exact Pl.when trivial
theorem pl_name (x : Str) (o : Option Nat) : Pl (namePE sc x o) := by
  cases o with
  | some i => trivial
  | none =>
    refine Pl.when ?_
    cases tyNames.lookup x <;> trivial
theorem pl_map1 (x : Option Str) (f e : Expr) : Pl (map1 rec sc x f e) := by
  unfold map1
  cases x with
  | none => trivial
  | some x =>
    show Pl (match asName f with | some f => _ | none => _)
    cases asName f with
    | none => trivial
    | some f =>
      refine Pl.when ?_
      unfold map2
      cases fnNames.lookup f with
      | none => trivial
      | some g => exact Pl.when trivial
theorem pl_map (es : List Expr) : Pl (mapPE rec sc es) := by
  cases es with
  | nil => trivial
  | cons a r => cases r with
    | cons _ _ => trivial
    | nil => cases a with
      | Call mp as kw p =>
        refine Pl.when ?_
        cases as with
        | nil => trivial
        | cons f r => cases r with
          | nil => trivial
          | cons e r => cases r with
            | nil => exact pl_map1 _ _ _
            | cons _ _ => trivial
      | _ => trivial
theorem pl_call (f : Expr) (es : List Expr) (p : Pos) : Pl (callPE rec sc es p f) := by
  cases f with
  | Attribute o name p' =>
    show Pl (mePE rec sc o p' es p (meNames.lookup name))
    cases meNames.lookup name with
    | none => trivial
    | some m => exact Pl.when trivial
  | Name f p' =>
    refine Pl.when ?_
    show Pl (fnPE rec sc f es (fnNames.lookup f))
    cases fnNames.lookup f with
    | some g => trivial
    | none =>
      show Pl (biPE rec sc f es (biNames.lookup f))
      cases biNames.lookup f with
      | some b => trivial
      | none => exact Pl.when (pl_map es)
  | _ => trivial
theorem sndC_cmp {l : Expr} {rs : List Expr} {ops : List CmpOp} {p : Pos} {QB : Bool → Mu → Prop} (H : ∀ sc m e, SndE G k (rec sc m e) e sc) (hF : FmSc F sc) (h : vcC G k (cmpPE rec sc l rs ops) ρ μ QB X) : WG G F k RE ρ μ (isTrue (.Compare l ops rs p) F.env (eval (.Compare l ops rs p) F.env)) (Un ρ QB) (Un ρ X) := by
  obtain ⟨o, r, rfl, rfl, hb, h⟩ := cmpE (P := fun pe => vcC G k pe ρ μ QB X) (fun h => h) h
  refine c_cmp hb (seqWG (H sc 0 l F ρ μ _ X hF h) fun x μ₁ h => seqWG (H sc 0 r F ρ μ₁ _ X hF h) fun y μ₂ h => ?_)
  have e : (fun d => vcTruth d μ₂ fun t => Un ρ QB t ρ μ₂) = fun d => vcTruth d μ₂ fun t => QB t μ₂ := by rw [un1]
  rw [e]; exact h
theorem sndE_cmp {l : Expr} {rs : List Expr} {ops : List CmpOp} {p : Pos} (H : ∀ sc m e, SndE G k (rec sc m e) e sc) (hF : FmSc F sc) (h : vcE G k (cmpPE rec sc l rs ops) ρ μ Q X) : WG G F k RV ρ μ (eval (.Compare l ops rs p) F.env) (Un ρ Q) (Un ρ X) := by
  obtain ⟨o, r, rfl, rfl, hb, h⟩ := cmpE (P := fun pe => vcE G k pe ρ μ Q X) (fun h => h) h
  exact r_cmp hb (seqWG (H sc 0 l F ρ μ _ X hF h) fun x μ₁ h => seqWG (H sc 0 r F ρ μ₁ _ X hF h) fun y μ₂ h => by rw [un1]; exact h)
theorem sndC_bool {op : BoolOp} {es : List Expr} {p : Pos} {QB : Bool → Mu → Prop} (HC : ∀ sc m e, SndC G k (rec sc m e) e sc) (hF : FmSc F sc) (h : vcC G k (bool2 rec sc op es) ρ μ QB X) : WG G F k RE ρ μ (isTrue (.BoolOp op es p) F.env (eval (.BoolOp op es p) F.env)) (Un ρ QB) (Un ρ X) := by
  cases es with
  | nil => exact h.elim
  | cons a r => cases r with
    | nil => exact h.elim
    | cons b r => cases r with
      | cons _ _ => exact h.elim
      | nil => cases op with
        | And => exact c_and ((HC sc 0 a F ρ μ _ X hF h).mono (fun t ρ' μ' zz1 => zz1.elim fun e q => by subst e; exact ⟨fun z => HC sc 0 b F _ μ' QB X hF (q.1 z), fun z => ⟨rfl, q.2 z⟩⟩) fun zz zz zz q => q)
        | Or => exact c_or ((HC sc 0 a F ρ μ _ X hF h).mono (fun t ρ' μ' zz2 => zz2.elim fun e q => by subst e; exact ⟨fun z => ⟨rfl, q.1 z⟩, fun z => HC sc 0 b F _ μ' QB X hF (q.2 z)⟩) fun zz zz zz q => q)
end
section
variable {G : GG} {F : Fm} {k : Nat} {ρ : Rho} {μ : Mu} {W : Wd} {s : Shared} {A : Around} {Q : D → Mu → Prop} {X : List Nat → Mu → Prop} {rec : Sc → Nat → Expr → PE} {sc : Sc}
theorem stepE_snd (HR : RdOk G k) (H : ∀ sc m e, SndE G k (rec sc m e) e sc) (HC : ∀ sc m e, SndC G k (rec sc m e) e sc) (hT : ∀ (F : Fm) sc es ρ μ Q X p p', FmSc F sc → globalIn sc "tuple" = true → vcE G k (mapPE rec sc es) ρ μ Q X → WG G F k RV ρ μ (eval (.Call (.Name "tuple" p') es [] p) F.env) (Un ρ Q) (Un ρ X)) : ∀ sc m e, SndE G k (stepE rec sc m e) e sc := fun sc m e F ρ μ Q X hF h => by
  cases e with
  | Constant c n p => exact snd_const h
  | Name x p => exact snd_name hF h
  | BinOp l op r p => exact snd_bin H hF h
  | UnaryOp op x p => cases op <;> exact h.elim
  | BoolOp op es p =>
    cases es with
    | nil => exact h.elim
    | cons a r => cases r with
      | nil => exact h.elim
      | cons b r => cases r with
        | nil => cases op <;> exact h.elim
        | cons _ _ => exact h.elim
  | Compare l ops rs p => exact sndE_cmp H hF h
  | IfExp c a b p => exact snd_ite H HC hF h
  | Call f es kw p => exact snd_call HR H hF (fun es ρ μ Q X p p' => hT F sc es ρ μ Q X p p' hF) h
  | Subscript o i p => exact snd_sub H hF h
  | List es p => exact snd_list H hF h
  | Tuple es n p => exact snd_tup H hF h
  | ListComp elt gens inner p => exact snd_lc H HC hF h
  | _ => exact h.elim
theorem pl_sub (o i : Expr) : Pl (subPE rec sc o i) := by
  cases i with
  | Slice lo hi st p => cases lo <;> cases hi <;> cases st <;> trivial
  | _ => trivial
theorem pl_comp {inner : Sc} {kd : ScopeKind} {g : Comprehension} {K : Option Nat → PE} (hK : ∀ o, Pl (K o)) : Pl (comp1 sc inner kd g K) := by
  unfold comp1
  cases asName g.target with
  | none => trivial
  | some x => exact Pl.when (hK _)
theorem pl_lc {elt : Expr} {gens : List Comprehension} {inner : Scope} {m : Nat} : Pl (lcGens rec sc m elt inner gens) := by
  cases gens with
  | nil => trivial
  | cons g r => cases r with
    | cons _ _ => trivial
    | nil =>
      refine pl_comp fun o => ?_
      cases o with
      | none => trivial
      | some t =>
        refine Pl.when ?_
        unfold srcPE
        cases rangeArg sc g.iter <;> trivial
theorem stepC_snd (H : ∀ sc m e, SndE G k (rec sc m e) e sc) (HC : ∀ sc m e, SndC G k (rec sc m e) e sc) (HS : ∀ sc m e, SndE G k (stepE rec sc m e) e sc) : ∀ sc m e, SndC G k (stepE rec sc m e) e sc := fun sc m e F ρ μ QB X hF h => by
  cases e with
  | Constant c n p => exact c_of_e (HS sc m _) hF (fun zz => rfl) (vcC_E (pl_const c) h)
  | Name x p => exact c_of_e (HS sc m _) hF (fun zz => rfl) (vcC_E (Pl.when (pl_name x _)) h)
  | Call f es kw p => exact c_of_e (HS sc m _) hF (fun zz => rfl) (vcC_E (Pl.when (pl_call f es p)) h)
  | UnaryOp op x p =>
    cases op with
    | Not => exact c_not ((HC sc 0 x F ρ μ _ X hF h).mono (fun t ρ' μ' q => q) fun zz zz zz q => q)
    | _ => exact h.elim
  | BoolOp op es p => exact sndC_bool HC hF h
  | Compare l ops rs p => exact sndC_cmp H hF h
  | BinOp l op r p => revert h; show vcC G k (binPE (trOp op) _ _) ρ μ QB X → _; cases trOp op <;> exact fun h => h.elim
  | Subscript o i p => exact c_of_e (HS sc m _) hF (fun zz => rfl) (vcC_E (pl_sub o i) h)
  | List es p => exact c_of_e (HS sc m _) hF (fun zz => rfl) (vcC_E (Pl.when (p := .list _ _) trivial) h)
  | Tuple es n p => exact c_of_e (HS sc m _) hF (fun zz => rfl) (vcC_E (Pl.when (p := .tup _) trivial) h)
  | ListComp elt gens inner p => exact c_of_e (HS sc m _) hF (fun zz => rfl) (vcC_E pl_lc h)
  | _ => exact h.elim
end
section
variable {G : GG} {F : Fm} {k : Nat} {ρ : Rho} {μ : Mu} {W : Wd} {s : Shared} {A : Around}
theorem Rel.retire (r : Rel G F W ρ μ s) {i : Nat} {a : Addr} {l : List D} (ha : W.π[i]? = some a) (hl : μ[i]? = some (some l)) {vs : Array Value} {n : Nat} (ho : s.heap.get? a = some (listO vs n)) :
    Rel G F { W with φ := W.φ.set a (listO vs n) } ρ (μ.set i none) s ∧ W.le { W with φ := W.φ.set a (listO vs n) } := by
  have hmem : a ∈ W.π := List.mem_of_getElem? ha
  obtain ⟨h1, h3⟩ := r.wr.apart a hmem
  have h2 := r.wr.live i a l ha hl
  have le : W.le { W with φ := W.φ.set a (listO vs n) } := ⟨rfl, rfl, PMap.le_set h2, .refl _, rfl, fun b h e => PMap.set_none e fun q => by
    subst q
    rcases h with h | h
    · exact h h1
    · exact h h3⟩
  have ne : ∀ j b, i ≠ j → W.π[j]? = some b → b ≠ a := fun j b q e z => by
    subst z
    obtain ⟨l1, g1⟩ := List.getElem?_eq_some_iff.mp ha
    obtain ⟨l2, g2⟩ := List.getElem?_eq_some_iff.mp e
    exact q ((List.getElem_inj r.wr.nodup).mp (g1.trans g2.symm))
  have hlt : i < μ.length := (List.getElem?_eq_some_iff.mp hl).1
  refine ⟨⟨⟨r.wr.gok, r.wr.ground, r.wr.ψ, fun b o' e => ?_, r.wr.fs, by rw [List.length_set]; exact r.wr.len, fun j b ds e1 e2 => ?_, r.wr.nodup, r.wr.apart, fun j b ds e1 e2 => ?_, fun j b e1 e2 => ?_, r.wr.tab.move (fun zz e => e) r.wr.tab.ψ (PMap.set_none r.wr.tab.φ (Ne.symm (r.wr.notTab h3))) rfl le.φ, r.wr.rest⟩, r.ok, ?_, fun b hb => ?_, r.pnd, r.cells, r.cnd, r.there⟩, le⟩
  · rcases PMap.set_some e with ⟨rfl, rfl⟩ | e
    · exact ho
    · exact r.wr.φ _ _ e
  · by_cases q : i = j
    · subst q; rw [List.getElem?_set_self hlt] at e2; cases e2
    · rw [List.getElem?_set_ne q] at e2
      obtain ⟨us, m, g1, g2, g3⟩ := r.wr.muts j b ds e1 e2
      exact ⟨us, m, g1, g2, g3.up le⟩
  · by_cases q : i = j
    · subst q; rw [List.getElem?_set_self hlt] at e2; cases e2
    · rw [List.getElem?_set_ne q] at e2
      exact PMap.set_none (r.wr.live j b ds e1 e2) (ne j b q e1)
  · by_cases q : i = j
    · subst q; rw [ha] at e1; cases e1; exact ⟨vs, n, PMap.set_at _ _ _⟩
    · rw [List.getElem?_set_ne q] at e2
      obtain ⟨us, m, h⟩ := r.wr.done j b e1 e2
      exact ⟨us, m, le.φ _ _ h⟩
  · obtain ⟨m, hm, h⟩ := r.loc
    exact ⟨m, hm, fun j x e => (h j x e).up le⟩
  · obtain ⟨p, q, x, y⟩ := r.priv b hb
    exact ⟨p, PMap.set_none q fun z => y (z ▸ hmem), x, y⟩
end
section
variable {G : GG} {F : Fm} {k : Nat} {ρ : Rho} {μ : Mu} {W : Wd} {s : Shared} {A : Around} {E : Value → Shared → Prop}
theorem FrOk.mem {l : List Env} {S : Addr} (h : ∀ e ∈ l, FrOk W (some F.env.locals) e) (hS : S ∈ l.filterMap (·.frame)) : S = F.env.locals ∨ (∃ o, W.fs S = some o ∧ ∀ vs, o.data ≠ .fields vs) ∧ W.ψ S = none ∧ W.φ S = none := by
  obtain ⟨x, hx, e⟩ := List.mem_filterMap.mp hS
  obtain ⟨_, a, e1, e2⟩ := h x hx
  rw [e1] at e; cases e
  exact e2.imp (fun q => Option.some.inj q) id
theorem Rel.frames (r : Rel G F W ρ μ s) : ∀ {l : List Env}, (∀ e ∈ l, FrOk W (some F.env.locals) e) → s.heap.FunFrames {} l
  | [], _ => trivial
  | x :: l, h => by
    obtain ⟨h1, a, h2, h3⟩ := h x (List.mem_cons_self ..)
    refine ⟨h1, ?_, r.frames fun e he => h e (List.mem_cons_of_mem _ he)⟩
    rcases h3 with h3 | ⟨⟨o, h3, h4⟩, _⟩
    · cases h3
      obtain ⟨o, es, ep, e1, e2⟩ := r.locals
      exact ⟨_, o, h2, Heap.get?_none_of_le (Nat.zero_le _), e1, fun vs q => by rw [e2] at q; cases q⟩
    · obtain ⟨sl, e1⟩ := r.wr.fs a o h3 fun q => by
        obtain ⟨ps, e⟩ := r.wr.tab.fs
        rw [← q, h3] at e; cases e; exact h4 ps rfl
      exact ⟨a, _, h2, Heap.get?_none_of_le (Nat.zero_le _), e1, h4⟩
theorem Rel.slots (r : Rel G F W ρ μ s) {S : List Addr} {h' : Heap} (hs : Heap.SlotsOnly S s.heap h') (hS : ∀ a ∈ S, a = F.env.locals ∨ (∃ o, W.fs a = some o ∧ ∀ vs, o.data ≠ .fields vs) ∧ W.ψ a = none ∧ W.φ a = none) : Rel G F W ρ μ { s with heap := h' } := by
  obtain ⟨l1, l2, l3, l4⟩ := r.priv _ (List.mem_cons_self ..)
  have kψ : ∀ a o, W.ψ a = some o → a ∉ S := fun a o e q => by
    rcases hS a q with rfl | ⟨_, h, _⟩
    · rw [l1] at e; exact nosome e
    · rw [h] at e; exact nosome e
  have kφ : ∀ a o, W.φ a = some o → a ∉ S := fun a o e q => by
    rcases hS a q with rfl | ⟨_, _, h⟩
    · rw [l2] at e; exact nosome e
    · rw [h] at e; exact nosome e
  have kπ : ∀ a, a ∈ W.π → a ∉ S := fun a e q => by
    rcases hS a q with rfl | ⟨⟨o, h, _⟩, _⟩
    · exact l4 e
    · rw [(r.wr.apart a e).2] at h; exact nosome h
  have ko : ∀ a, a ∈ F.own → a ∉ S := fun a e q => by
    rcases hS a q with rfl | ⟨⟨o, h, _⟩, _⟩
    · exact (List.nodup_cons.mp r.pnd).1 e
    · rw [(r.priv a (List.mem_cons_of_mem _ e)).2.2.1] at h; exact nosome h
  have kP : G.P ∉ S := fun q => by
    obtain ⟨ps, e⟩ := r.wr.tab.fs
    rcases hS _ q with h | ⟨⟨o, h, hd⟩, _⟩
    · rw [h, (r.priv _ (List.mem_cons_self ..)).2.2.1] at e; exact nosome e
    · rw [h] at e; cases e; exact hd ps rfl
  refine ⟨⟨r.wr.gok, r.wr.ground, fun a o e => (hs.2.1 a (kψ a o e)).trans (r.wr.ψ a o e), fun a o e => (hs.2.1 a (kφ a o e)).trans (r.wr.φ a o e), fun a o e hp => ?_, r.wr.len, fun i a ds e1 e2 => ?_, r.wr.nodup, r.wr.apart, r.wr.live, r.wr.done, r.wr.tab.move (fun o e => (hs.2.1 _ kP).trans e) r.wr.tab.ψ r.wr.tab.φ rfl (.refl _), r.wr.rest.elim fun h zz8 => zz8.elim fun t e => ⟨h', s.toks, by rw [e]⟩⟩,
    r.ok, ?_, r.priv, r.pnd, r.cells, r.cnd, fun a ha => (r.there a ha).elim fun o e => ⟨o, (hs.2.1 a (ko a ha)).trans e⟩⟩
  · obtain ⟨sl, h⟩ := r.wr.fs a o e hp
    obtain ⟨sl', h'⟩ := hs.2.2 a _ h
    exact ⟨sl', h'⟩
  · obtain ⟨us, m, h1, h2⟩ := r.wr.muts i a ds e1 e2
    exact ⟨us, m, (hs.2.1 a (kπ a (List.mem_of_getElem? e1))).trans h1, h2⟩
  · obtain ⟨m, hm, h⟩ := r.loc
    refine ⟨m, Heap.UpToSlots.ns (fun b o e zz => hs.2.2 b o e) hm, fun i x hx => Or.imp id (fun zz1 => zz1.elim fun q1 zz2 => zz2.elim fun c zz3 => zz3.elim fun oc zz4 => zz4.elim fun q2 zz5 => zz5.elim fun zz6 q5 => zz6.elim fun co zz7 => zz7.elim fun q3 q4 => ⟨q1, c, oc, q2, ⟨co, (hs.2.1 c ?_).trans q3, q4⟩, q5⟩) (h i x hx)⟩
    rcases r.cells _ _ q2 with z | ⟨o, z⟩
    · exact ko c z
    · exact kψ c o z
theorem note_entry (r : Rel G F W ρ μ s) (a : AOk F W k A) (hF : F.isFn = true) {e : Addr} {oe : Obj} {vs : Array Value} {head : Value} {hadNext : Bool} {Q : Unit → Shared → Prop}
    (he : s.heap.get? e = some oe) (hd : oe.data = .fields vs) (hsz : 1 < vs.size) (ho : Out F W e)
    (h : ∀ h' T ts oT, Rel G F W ρ μ { s with heap := h' } → (∀ b o, b ≠ e → s.heap.get? b = some o → ∃ sl, h'.get? b = some { o with slots := sl }) → h'.get? e = some (oe.mapFields (·.setIfInBounds 1 (.ref T))) →
      h'.get? T = some oT → oT.data = .fields ts → 3 < ts.size → Out F W T → s.heap.get? T = none → Q () { s with heap := h' }) :
    wpAny G.M A (do let a ← frameOf F.env; let pl ← entryPlaceOf F.env.locals hadNext; let b ← EntryCells.newEntry head a .none (rawInt F.env.locals) .none pl; setField (.ref e) 1 b) Q E s := by
  obtain ⟨l, hl, hfn, hall⟩ := a.frames
  have hl2 := hfn hF
  subst hl2
  refine wpAny_bind (wpAny_frameOf_fun hl (r.frames hall) (r.ok.frame hF) fun h₁ hs₁ => ?_)
  have r1 := r.slots hs₁ fun b hb => FrOk.mem hall hb
  have hne : e ∉ (F.env :: F.outer).filterMap (·.frame) := fun hm => by
    rcases FrOk.mem hall hm with rfl | ⟨⟨o, q, _⟩, _⟩
    · exact ho.2.2.2.2 (List.mem_cons_self ..)
    · rw [ho.2.2.1] at q; exact nosome q
  have he₁ : h₁.get? e = some oe := (hs₁.2.1 e hne).trans he
  refine wpAny_bind (wpAny_entryPlaceOf fun pl hpl => ?_)
  unfold EntryCells.newEntry newFields
  refine wpAny_bind (wpAny_newObj_type ?_ (hpl.sizeOk5 _ _ _ _ _))
  generalize hoT : ({ cls := .type "traceback", dict := none, data := .fields ([head, .ref F.env.locals, .none, rawInt F.env.locals, .none] ++ (if pl.isEmpty then List.replicate 6 Value.none else pl)).toArray } : Obj) = oT
  have hTd : ∃ ts, oT.data = .fields ts ∧ 3 < ts.size := ⟨_, by rw [← hoT], by simp only [List.size_toArray, List.length_append, List.length_cons, List.length_nil]; exact ar145⟩
  have hTf : oT.isFreed = false := by rw [← hoT]; rfl
  clear hoT
  obtain ⟨ts, hTd, hTz⟩ := hTd
  have hTn : s.heap.get? h₁.objs.size = none := Heap.get?_none_of_le (by rw [hs₁.1]; exact Nat.le_refl _)
  have he₂ := Heap.get?_push_of_some (h := h₁) oT he₁
  have hTe : h₁.objs.size ≠ e := Nat.ne_of_gt (Heap.lt_size he₁)
  refine wpAny_setField he₂ hd hsz (h _ h₁.objs.size ts oT ?_ (fun b o hb q => ?_) (Heap.get?_update_self _ he₂ (Obj.isFreed_of_fields (Obj.data_mapFields hd _))) ((upd_same _ _ hTe (Heap.get?_push_size h₁ hTf))) hTd hTz (r.out_new hTn) hTn)
  · exact (r1.keeps (t := s.toks) fun b o q => Heap.get?_push_of_some oT q).touch (t := s.toks) fun b o q z => upd_same _ _ (fun y => q (y ▸ ho)) z
  · obtain ⟨sl, q⟩ := hs₁.2.2 b o q
    exact ⟨sl, upd_same _ _ hb (Heap.get?_push_of_some _ q)⟩
noncomputable abbrev Trk (F : Fm) (W : Wd) (h : Heap) (e : Addr) (msg : List Nat) : Prop := ExcD (Out F W) true h e msg
inductive NQ (G : GG) (F : Fm) (W : Wd) (ρ : Rho) (μ : Mu) (e : Addr) (msg : List Nat) (s' : Shared) : Prop
  | mk (r : Rel G F W ρ μ s') (x : Trk F W s'.heap e msg)
theorem note_fin (r : Rel G F W ρ μ s) (a : AOk F W k A) (hF : F.isFn = true) {e t : Addr} {msg : List Nat} {oe ot : Obj} {vs : Array Value} {y : Str} {tk : Tok} {n : Nat} {head : Value} {hadNext : Bool} (he : s.heap.get? e = some oe) (hc : oe.cls = .type "ValueError") (hd : oe.data = .fields vs) (hz : vs.size = 6) (h0 : vs[0]? = some (.ref t))
    (ht : s.heap.get? t = some ot) (htc : ot.cls = .type "tuple") (htd : ot.data = .seq #[.str y tk] n) (hx : y.cps.toList = msg) (ho : Out F W e) (hne : e ≠ t) :
    wpAny G.M A (do let a ← frameOf F.env; let pl ← entryPlaceOf F.env.locals hadNext; let b ← EntryCells.newEntry head a .none (rawInt F.env.locals) .none pl; setField (.ref e) 1 b) (fun zz s' => NQ G F W ρ μ e msg s') E s :=
  note_entry r a hF he hd (by exact ar146 hz) ho fun h' T ts oT r1 kp e1 e2 e3 e4 e5 e6 => by
    obtain ⟨sl, q⟩ := kp t ot (Ne.symm hne) ht
    have hTt : T ≠ t := fun z => by rw [z, ht] at e6; cases e6
    have hTe : T ≠ e := fun z => by rw [z, he] at e6; cases e6
    exact ⟨r1, _, _, t, _, y, tk, n, e1, (Obj.cls_mapFields ..).trans hc, Obj.data_mapFields hd (·.setIfInBounds 1 (Value.ref T)), (Array.size_setIfInBounds ..).trans hz, (Array.getElem?_setIfInBounds_ne (by decide)).trans h0, q, htc, htd, hx, ho, hne,
      .inr ⟨T, oT, ts, by rw [Array.getElem?_setIfInBounds_self_of_lt (by exact ar146 hz)], e5, hTe, hTt, e2, e3, e4⟩⟩
theorem note_ (r : Rel G F W ρ μ s) (a : AOk F W k A) (hF : F.isFn = true) {e : Addr} {msg : List Nat} (x : ExcAt F W s.heap e msg) :
    wpAny G.M A (noteFrame (.ref e) F.env) (fun zz s' => NQ G F W ρ μ e msg s') E s := by
  cases x with
  | mk oe vs t ot y tk n he hc hd hz h0 ht htc htd hx ho hne tr =>
    unfold noteFrame
    simp only [r.ok.frame hF]
    rcases tr with ⟨_, q⟩ | tr
    · refine wpAny_bind (wpAny_field he hd q ?_)
      exact note_fin r a hF he hc hd hz h0 ht htc htd hx ho hne
    · cases tr with
      | mk T oT ts b1 b2 b3 b4 b5 b6 b7 =>
        refine wpAny_bind (wpAny_field he hd b1 ?_)
        obtain ⟨v3, h3⟩ : ∃ v, ts[3]? = some v := ⟨_, Array.getElem?_eq_getElem b7⟩
        refine wpAny_bind (wpAny_field b5 b6 h3 ?_)
        by_cases z : (v3 == rawInt F.env.locals) = true
        · rw [if_pos z]
          exact wpAny_pure ⟨r, oe, vs, t, ot, y, tk, n, he, hc, hd, hz, h0, ht, htc, htd, hx, ho, hne, .inr ⟨T, oT, ts, b1, b2, b3, b4, b5, b6, b7⟩⟩
        · rw [if_neg z]
          exact wpAny_bind (wpAny_setField b5 b6 b7 (note_fin (r.touch (t := s.toks) fun b o q z => upd_same b o (fun y => q (y ▸ b2)) z) a hF (upd_same _ _ (Ne.symm b3) he) hc hd hz h0 (upd_same _ _ (Ne.symm b4) ht) htc htd hx ho hne))
theorem flight_ (r : Rel G F W ρ μ s) {e : Addr} {msg : List Nat} (x : Trk F W s.heap e msg) (o : Option Addr) :
    wpAny G.M A (setFlight (.ref e) o) (fun zz s' => NQ G F W ρ μ e msg s') E s := by
  cases x with
  | mk oe vs t ot y tk n he hc hd hz h0 ht htc htd hx ho hne tr =>
    rcases tr with ⟨q, _⟩ | tr
    · cases q
    · cases tr with
      | mk T oT ts b1 b2 b3 b4 b5 b6 b7 =>
        refine wpAny_bind (wpAny_field he hd b1 ?_)
        have hq := fun v => Obj.data_mapFields b6 (·.setIfInBounds 3 v)
        exact wpAny_setField b5 b6 b7 ⟨r.touch (t := s.toks) fun b o q z => upd_same b o (fun y => q (y ▸ b2)) z, oe, vs, t, ot, y, tk, n, upd_same _ _ (Ne.symm b3) he, hc, hd, hz, h0, upd_same _ _ (Ne.symm b4) ht, htc, htd, hx, ho, hne,
          .inr ⟨T, _, _, b1, b2, b3, b4, Heap.get?_update_self _ b5 (Obj.isFreed_of_fields (hq _)), hq _, by rw [Array.size_setIfInBounds]; exact b7⟩⟩
end
section
noncomputable abbrev FQ := Fl → Rho → Mu → Prop
noncomputable def thenQ (K : Rho → Mu → Prop) (Q : FQ) : FQ
  | .next => K
  | .brk => Q .brk
  | .cont => Q .cont
  | .ret d => Q (.ret d)
noncomputable def loopQ (K : Rho → Mu → Prop) (Q : FQ) : FQ
  | .next => K
  | .cont => K
  | .brk => Q .next
  | .ret d => Q (.ret d)
noncomputable def forC (step : D → Rho → Mu → FQ → Prop) : List D → Rho → Mu → FQ → Prop
  | [], ρ, μ, Q => Q .next ρ μ
  | d :: r, ρ, μ, Q => step d ρ μ (loopQ (fun ρ' μ' => forC step r ρ' μ' Q) Q)
noncomputable def two (d : D) (K : D → D → Prop) : Prop := asT d fun l => ∃ a b, l = [a, b] ∧ K a b
noncomputable def pairsD (l : List D) : List D := l.zipIdx.map fun p => .tup [.int (p.2 : Nat), p.1]
noncomputable def setI (x n d : D) (μ : Mu) (K : Mu → Prop) : Prop := asM x fun m => asI n fun j => getMu μ m fun l => (0 ≤ j ∧ j < l.length) ∧ K (μ.set m (some (l.set j.toNat d)))
noncomputable abbrev MX := List Nat → Rho → Mu → Prop
noncomputable abbrev VS := Rho → Mu → FQ → MX → Prop
variable (G : GG) (k : Nat)
noncomputable abbrev vE (e : PE) (ρ : Rho) (μ : Mu) (Q : D → Mu → Prop) (X : MX) : Prop := vcE G k e ρ μ Q fun m => X m ρ
noncomputable abbrev vC (e : PE) (ρ : Rho) (μ : Mu) (Q : Bool → Mu → Prop) (X : MX) : Prop := vcC G k e ρ μ Q fun m => X m ρ
noncomputable def vBad : VS := fun ρ μ Q X => False
noncomputable def vSkip : VS := fun ρ μ Q X => Q .next ρ μ
noncomputable def vSeq (a b : VS) : VS := fun ρ μ Q X => a ρ μ (thenQ (fun ρ' μ' => b ρ' μ' Q X) Q) X
noncomputable def vSet (i : Nat) (e : PE) : VS := fun ρ μ Q X => vE G k e ρ μ (fun d μ' => Q .next (put ρ i (some d)) μ') X
noncomputable def vSet2 (i j : Nat) (e : PE) : VS := fun ρ μ Q X => vE G k e ρ μ (fun d μ' => two d fun a b => Q .next (put (put ρ i (some a)) j (some b)) μ') X
noncomputable def vOne (i : Nat) (elt : PE) (cap : List (Option Nat)) (t : Nat) (it : PE) : VS := fun ρ μ Q X => vE G k it ρ μ (fun x μ₁ => asT x fun ds => ∃ b : Bool, (ds ≠ [] ∧ ds.length ≤ 2) ∧ (∀ d ∈ ds, vcE G k elt (put (capRho ρ cap) t (some d)) μ₁ (fun y μ₂ => y = .bool b ∧ μ₂ = μ₁) fun zz zz => False) ∧ Q .next (put ρ i (some (.bool b))) μ₁) X
noncomputable def vSetI (o i e : PE) : VS := fun ρ μ Q X => vE G k e ρ μ (fun d μ₁ => vE G k o ρ μ₁ (fun x μ₂ => vE G k i ρ μ₂ (fun n μ₃ => setI x n d μ₃ (Q .next ρ)) X) X) X
noncomputable def vAug (i : Nat) (o : Bop) (e : PE) : VS := fun ρ μ Q X => match look ρ i with
    | some x => vE G k e ρ μ (fun y μ' => vcAug o x y fun d => Q .next (put ρ i (some d)) μ') X
    | none => False
noncomputable def vIf (c : PE) (a b : VS) : VS := fun ρ μ Q X => vC G k c ρ μ (fun t μ' => (t = true → a ρ μ' Q X) ∧ (t = false → b ρ μ' Q X)) X
noncomputable def vWhile (c : PE) (b : VS) : VS := fun ρ μ Q X => ∃ (I : Nat → Rho → Mu → Prop) (n : Nat), I n ρ μ ∧ ∀ n ρ₁ μ₁, I n ρ₁ μ₁ → vC G k c ρ₁ μ₁ (fun t μ₂ => (t = true → b ρ₁ μ₂ (loopQ (fun ρ₃ μ₃ => ∃ m, m < n ∧ I m ρ₃ μ₃) Q) X) ∧ (t = false → Q .next ρ₁ μ₂)) X
noncomputable abbrev step1 (i : Nat) (b : VS) (X : MX) : D → Rho → Mu → FQ → Prop := fun d ρ' μ' K => b (put ρ' i (some d)) μ' K X
noncomputable abbrev step2 (i j : Nat) (b : VS) (X : MX) : D → Rho → Mu → FQ → Prop := fun d ρ' μ' K => two d fun a a' => b (put (put ρ' i (some a)) j (some a')) μ' K X
noncomputable def vFor (i : Nat) (rng : Bool) (e : PE) (b : VS) : VS := fun ρ μ Q X => vE G k e ρ μ (fun x μ₁ => srcD rng x fun ds => forC (step1 i b X) ds ρ μ₁ Q) X
noncomputable def vFor2 (i j : Nat) (e : PE) (b : VS) : VS := fun ρ μ Q X => vE G k e ρ μ (fun x μ₁ => itemsD' x fun ds => forC (step2 i j b X) ds ρ μ₁ Q) X
noncomputable def vRev (i : Nat) (e : PE) (b : VS) : VS := fun ρ μ Q X => vE G k e ρ μ (fun x μ₁ => asI x fun n => (0 ≤ n ∧ n ≤ 1000000) ∧ forC (step1 i b X) (rangeD n).reverse ρ μ₁ Q) X
noncomputable def vEnum (i j : Nat) (e : PE) (b : VS) : VS := fun ρ μ Q X => vE G k e ρ μ (fun x μ₁ => asL x fun ds => forC (step2 i j b X) (pairsD ds) ρ μ₁ Q) X
noncomputable def vRet (e : PE) : VS := fun ρ μ Q X => vE G k e ρ μ (fun d μ' => Q (.ret d) ρ μ') X
noncomputable def vExpr (e : PE) : VS := fun ρ μ Q X => vE G k e ρ μ (fun zz μ' => Q .next ρ μ') X
noncomputable def vBrk : VS := fun ρ μ Q X => Q .brk ρ μ
noncomputable def vCont : VS := fun ρ μ Q X => Q .cont ρ μ
noncomputable def vRaise (e : PE) : VS := fun ρ μ Q X => vE G k e ρ μ (fun d μ' => asS d fun m => X m ρ μ') X
noncomputable def vAssert (c : PE) : VS := fun ρ μ Q X => vC G k c ρ μ (fun t μ' => t = true ∧ Q .next ρ μ') X
noncomputable def vTryNo (b : VS) : VS := fun ρ μ Q X => b ρ μ Q fun zz zz zz => False
noncomputable def vTryNone (b : VS) : VS := fun ρ μ Q X => b ρ μ Q fun zz ρ' μ' => Q (.ret .none) ρ' μ'
noncomputable def vTryStr (b : VS) (i w : Nat) : VS := fun ρ μ Q X => b ρ μ Q fun m ρ' μ' => m.length ≤ big ∧ Q .next (put (put (put ρ' i none) w (some (.str m))) i none) μ'
noncomputable def vFrz (i : Nat) (b : VS) : VS := fun ρ μ Q X => match look ρ i with
    | some d => asM d fun a => getMu μ a fun l => b (put ρ i (some (.list l))) (μ.set a none) Q X
    | none => False
end
section
variable {G : GG} {F : Fm} {k : Nat} {ρ : Rho} {μ : Mu} {W : Wd} {s : Shared} {A : Around} {Q : FQ} {X : MX}
theorem kindFn (h : FmOk F) : interactive F.env = false := by unfold interactive; rw [h.kind]; rfl
noncomputable def compLike : Expr → Bool
  | .ListComp _ _ _ _ => true
  | .SetComp _ _ _ _ => true
  | .DictComp _ _ _ _ _ => true
  | _ => false
theorem swaps_plain {e : Expr} (h : compLike e = false) (t : Option Expr) (l : Nat) (env : Env) : swapsWith e t l env = pure false := by
  cases e <;> first | rfl | cases h
noncomputable abbrev CanSto (F : Fm) (x : Str) : Prop := F.env.kindOf x = some .local ∨ (F.env.kindOf x = some .cell ∧ F.isFn = true)
theorem x_set {x : Str} {i : Nat} {e : Expr} {p p' : Pos} (hi : F.vars[i]? = some x) (hk : CanSto F x) (hc : compLike e = false)
    (h : WG G F k RV ρ μ (eval e F.env) (Un ρ fun d μ' => Q .next (put ρ i (some d)) μ') X) : WG G F k RF ρ μ (exec (.Assign [.Name x p'] e p) F.env) Q X := fun W A s a r =>
  wpAny_Assign_Name (wp2 (.refl W) h a r (fun v s1 W1 d ρ1 μ1 le1 a1 r1 v1 q1 => by
    obtain ⟨e1, q1⟩ := q1
    subst e1
    exact wpAny_mono (r1.store hi v1 hk) (fun zz s2 h2 => ⟨W1, .next, _, _, le1, h2.1, .next, q1⟩) fun zz zz p => p) fun zz zz p => p) (swaps_plain hc _ _ _)
theorem x_expr {e : Expr} {p : Pos} (hc : compLike e = false) (h : WG G F k RV ρ μ (eval e F.env) (Un ρ fun d μ' => Q .next ρ μ') X) : WG G F k RF ρ μ (exec (.Expr e p) F.env) Q X := fun W A s a r =>
  wpAny_Expr_any (wp2 (.refl W) h a r (fun v s1 W1 d ρ1 μ1 le1 a1 r1 v1 q1 => ⟨W1, .next, ρ1, μ1, le1, r1, .next, q1.1 ▸ q1.2⟩) fun zz zz p => p) (kindFn r.ok) (swaps_plain hc _ _ _)
theorem x_ret {e : Expr} {p : Pos} (h : WG G F k RV ρ μ (eval e F.env) (Un ρ fun d μ' => Q (.ret d) ρ μ') X) : WG G F k RF ρ μ (exec (.Return (some e) p) F.env) Q X := fun W A s a r =>
  wpAny_Return_some (wp2 (.refl W) h a r (fun v s1 W1 d ρ1 μ1 le1 a1 r1 v1 q1 => ⟨W1, .ret d, ρ1, μ1, le1, r1, .ret v1, q1.1 ▸ q1.2⟩) fun zz zz p => p)
theorem x_brk {p : Pos} (h : Q .brk ρ μ) : WG G F k RF ρ μ (exec (.Break p) F.env) Q X := fun W A s a r => wpAny_Break ⟨W, .brk, ρ, μ, .refl W, r, .brk, h⟩
theorem x_cont {p : Pos} (h : Q .cont ρ μ) : WG G F k RF ρ μ (exec (.Continue p) F.env) Q X := fun W A s a r => wpAny_Continue ⟨W, .cont, ρ, μ, .refl W, r, .cont, h⟩
theorem wpC {QB : Bool → Rho → Mu → Prop} {t : Sem Bool} {E : Value → Shared → Prop} {P : Bool → Shared → Prop} (h : WG G F k RE ρ μ t QB X) (a : AOk F W k A) (r : Rel G F W ρ μ s)
    (hq : ∀ b s' W' ρ' μ', W.le W' → AOk F W' k A → Rel G F W' ρ' μ' s' → QB b ρ' μ' → P b s') (he : ∀ x s', PX G F W X x s' → E x s') : wpAny G.M A t P E s :=
  wpAny_mono (h W A s a r) (fun b s' p => by
    cases p with
    | mk W' b' ρ' μ' le r' hb q => cases (show b = b' from hb); exact hq b s' W' ρ' μ' le (a.up le) r' q) he
theorem x_assert {c : Expr} {m : Option Expr} {p : Pos} (h : WG G F k RE ρ μ (isTrue c F.env (eval c F.env)) (fun t ρ' μ' => t = true ∧ Q .next ρ' μ') X) : WG G F k RF ρ μ (exec (.Assert c m p) F.env) Q X := fun W A s a r =>
  wpAny_Assert_holds (wpC h a r (fun b s1 W1 ρ1 μ1 le1 a1 r1 q1 => ⟨q1.1, W1, .next, ρ1, μ1, le1, r1, .next, q1.2⟩) fun zz zz p => p)
theorem x_if {c : Expr} {b o : List Stmt} {p : Pos} (h : WG G F k RE ρ μ (isTrue c F.env (eval c F.env)) (fun t ρ' μ' => (t = true → WG G F k RF ρ' μ' (execs b F.env) Q X) ∧ (t = false → WG G F k RF ρ' μ' (execs o F.env) Q X)) X) :
    WG G F k RF ρ μ (exec (.If c b o p) F.env) Q X := fun W A s a r =>
  wpAny_If (wpC h a r (fun t s1 W1 ρ1 μ1 le1 a1 r1 q1 => by
    cases t with
    | true => exact wpAny_mono (q1.1 rfl W1 A s1 a1 r1) (fun zz zz p => p.up le1) fun zz zz p => p.up le1
    | false => exact wpAny_mono (q1.2 rfl W1 A s1 a1 r1) (fun zz zz p => p.up le1) fun zz zz p => p.up le1) fun zz zz p => p)
theorem x_nil (h : Q .next ρ μ) : WG G F k RF ρ μ (execs [] F.env) Q X := fun W A s a r => wpAny_execs_nil ⟨W, .next, ρ, μ, .refl W, r, .next, h⟩
theorem x_cons {st : Stmt} {r : List Stmt} (h : WG G F k RF ρ μ (exec st F.env) (thenQ (fun ρ' μ' => WG G F k RF ρ' μ' (execs r F.env) Q X) Q) X) : WG G F k RF ρ μ (execs (st :: r) F.env) Q X := fun W A s a rr =>
  wpAny_execs_cons (wpAny_mono (h W A s a rr) (fun f s1 p => by
    cases p with
    | mk W1 b ρ1 μ1 le1 r1 hb q =>
      cases hb with
      | next => exact wpAny_mono (q W1 A s1 (a.up le1) r1) (fun zz zz p => p.up le1) fun zz zz p => p.up le1
      | brk => exact ⟨W1, .brk, ρ1, μ1, le1, r1, .brk, q⟩
      | cont => exact ⟨W1, .cont, ρ1, μ1, le1, r1, .cont, q⟩
      | ret hv => exact ⟨W1, .ret _, ρ1, μ1, le1, r1, .ret hv, q⟩) fun zz zz p => p)
theorem noted_ (a : AOk F W k A) (hF : F.isFn = true) {x : Value} (p : PX G F W X x s) : notedBy G.M A F.env (fun e s' => cameBackBy G.M A F.env (PX G F W X) e s') x s := by
  cases p with
  | mk W1 e msg ρ1 μ1 le r hx ex q =>
    subst hx
    refine wpAny_mono (note_ r (a.up le) hF ex) (fun zz s1 n => ?_) fun _ _ (f : False) => f.elim
    cases n with
    | mk r1 x1 =>
      refine wpAny_bind (m := field _ 1) ?_
      have x2 := x1
      cases x1 with
      | mk oe vs t ot y tk n he hc hd hz h0 ht htc htd hx ho hne tr =>
        rcases tr with ⟨f, _⟩ | tr
        · cases f
        · cases tr with
          | mk T oT ts b1 b2 b3 b4 b5 b6 b7 =>
            refine wpAny_field he hd b1 ?_
            rw [if_neg (by simp)]
            refine wpAny_mono (flight_ r1 x2 _) (fun zz s2 n => ?_) fun _ _ (f : False) => f.elim
            cases n with
            | mk r2 x3 => exact ⟨W1, e, msg, ρ1, μ1, le, r2, rfl, x3.mono (fun zz h => h) false fun zz => rfl, q⟩
end
section
variable {G : GG} {F : Fm} {k : Nat} {ρ : Rho} {μ : Mu} {W : Wd} {s : Shared} {A : Around} {Q : FQ} {X : MX}
inductive LI (G : GG) (F : Fm) (W : Wd) (I : Rho → Mu → Prop) (s' : Shared) : Prop
  | mk (W' : Wd) (ρ' : Rho) (μ' : Mu) (le : W.le W') (r : Rel G F W' ρ' μ' s') (h : I ρ' μ')
noncomputable abbrev Lp (G : GG) (A : Around) (F : Fm) (W : Wd) (Q : FQ) (X : MX) : Result → Shared → Prop := fun r s' => match r with
  | .ok f => PQ G F W RF Q f s'
  | .error e => cameBackBy G.M A F.env (PX G F W X) e s'
theorem x_while {I : Nat → Rho → Mu → Prop} {c : Expr} {b : List Stmt} {p : Pos} (hF : F.isFn = true) (turn : ∀ n ρ₁ μ₁, I n ρ₁ μ₁ → WG G F k RE ρ₁ μ₁ (isTrue c F.env (eval c F.env)) (fun t ρ₂ μ₂ => (t = true → WG G F k RF ρ₂ μ₂ (execs b F.env) (loopQ (fun ρ₃ μ₃ => ∃ m, m < n ∧ I m ρ₃ μ₃) Q) X) ∧ (t = false → Q .next ρ₂ μ₂)) X)
    (n : Nat) (h : I n ρ μ) : WG G F k RF ρ μ (exec (.While c b [] p) F.env) Q X := fun W A s a r => by
  refine wpAny_While (codeAny_whileLoop (R := Lp G A F W Q X) (fun n s' => LI G F W (I n) s') (fun n s1 hI => ?_) n ⟨W, ρ, μ, .refl W, r, h⟩)
  cases hI with
  | mk W1 ρ1 μ1 le1 r1 h1 =>
    refine wpC (turn n ρ1 μ1 h1) (a.up le1) r1 (fun t s2 W2 ρ2 μ2 le2 a2 r2 q2 => ?_) fun x s' p => noted_ a hF (p.up le1)
    have le := le1.trans le2
    cases t with
    | false => exact wpAny_execs_nil ⟨W2, .next, ρ2, μ2, le, r2, .next, q2.2 rfl⟩
    | true =>
      refine wpAny_mono (q2.1 rfl W2 A s2 a2 r2) (fun f s3 p => ?_) fun x s' p => noted_ a hF (p.up le)
      cases p with
      | mk W3 b ρ3 μ3 le3 r3 hb q3 =>
        have le := le.trans le3
        cases hb with
        | next => obtain ⟨m, hm, h3⟩ := q3; exact ⟨m, hm, W3, ρ3, μ3, le, r3, h3⟩
        | cont => obtain ⟨m, hm, h3⟩ := q3; exact ⟨m, hm, W3, ρ3, μ3, le, r3, h3⟩
        | brk => exact ⟨W3, .next, ρ3, μ3, le, r3, .next, q3⟩
        | ret hv => exact ⟨W3, .ret _, ρ3, μ3, le, r3, .ret hv, q3⟩
theorem go_quiet {I : Addr} {o : Obj} {v : Value} {P : Unit → Shared → Prop} {E : Value → Shared → Prop} (ho : s.heap.get? I = some o) (hq : quietC o.cls = true) (h : P () s) (target : Expr) : wpAny G.M A (letOwnedTupleGo target (.ref I) v) P E s := by
  have core : ∀ a, wpAny G.M A (do let o ← load I; (match o.cls, o.data with
      | .type n, .fields vs => if (["enumerate", "zip", "dict_itemiterator", "dict_reverseitemiterator", "odict_iterator", "itertools.zip_longest", "itertools.pairwise"].contains n && vs[0]? == some (rawInt a)) = true then (do rule "for.unpacks-the-owned-tuple"; updateField I 0 .none) else pure ()
      | _, _ => pure () : Sem Unit)) P E s := fun a => by
    refine wpAny_bind (wpAny_load ho ?_)
    generalize o.cls = c at hq
    generalize o.data = d
    cases c with
    | type n =>
      cases d with
      | fields vs =>
        have hq : (!(["enumerate", "zip", "dict_itemiterator", "dict_reverseitemiterator", "odict_iterator", "itertools.zip_longest", "itertools.pairwise"].contains n)) = true := hq
        rw [Bool.not_eq_true'] at hq
        show wpAny G.M A (if (_ && _) = true then _ else _) P E s
        rw [hq, Bool.false_and, if_neg Bool.false_ne_true]
        exact wpAny_pure h
      | _ => exact wpAny_pure h
    | _ => exact wpAny_pure h
  cases target with
  | Tuple _ _ _ =>
    cases v with
    | ref a => exact core a
    | _ => exact wpAny_pure h
  | List _ _ =>
    cases v with
    | ref a => exact core a
    | _ => exact wpAny_pure h
  | _ => exact wpAny_pure h
inductive AsQ (G : GG) (F : Fm) (W : Wd) (k : Nat) (μ : Mu) (t : Sem Flow) (Q : FQ) (X : MX) (s s' : Shared) : Prop
  | mk (ρ' : Rho) (r : Rel G F W ρ' μ s') (kp : ∀ b o, Out F W b → s.heap.get? b = some o → s'.heap.get? b = some o) (h : WG G F k RF ρ' μ t Q X)
inductive FI (G : GG) (F : Fm) (W : Wd) (step : D → Rho → Mu → FQ → Prop) (Q : FQ) (ds : List D) (I : Addr) (fp : List Addr) (P : Nat → Value → Prop) (St : Nat → Heap → Prop) (n : Nat) (s' : Shared) : Prop
  | mk (j : Nat) (W' : Wd) (ρ' : Rho) (μ' : Mu) (hj : ds.length = j + n) (le : W.le W') (r : Rel G F W' ρ' μ' s') (g : Going G F W' s'.heap ds I fp P St j) (h : forC step (ds.drop j) ρ' μ' Q)
theorem φkeep {Wa Wb : Wd} {sa sb : Shared} {ρa ρb : Rho} {μa μb : Mu} (le : Wa.le Wb) (ra : Rel G F Wa ρa μa sa) (rb : Rel G F Wb ρb μb sb) (b : Addr) (o : Obj) (e : Wa.φ b = some o) : sa.heap.get? b = some o ∧ sb.heap.get? b = some o := ⟨ra.wr.φ b o e, rb.wr.φ b o (le.φ b o e)⟩
theorem x_for {step : D → Rho → Mu → FQ → Prop} {target it : Expr} {b : List Stmt} {p : Pos} (hF : F.isFn = true) (hs : ∀ v, foldedSetIterable it F.env v = pure v)
    (hstep : ∀ W A s ρ' μ' v d K E, AOk F W k A → Rel G F W ρ' μ' s → V W.π W.φ v d → step d ρ' μ' K → wpAny G.M A (assign target F.env v) (fun zz s' => AsQ G F W k μ' (execs b F.env) K X s s') E s)
    (hsrc : SrcW G F k it ρ μ (fun ds ρ₁ μ₁ => forC step ds ρ₁ μ₁ Q) X) : WG G F k RF ρ μ (exec (.For target it b [] p) F.env) Q X := fun W A s a r => by
  refine wpAny_For (wpAny_mono (hsrc W A s a r) (fun v s1 h1 => wpAny_mono h1 (fun itv s2 h2 => ?_) fun zz zz p => p) fun zz zz p => p) hs
  cases h2 with
  | mk W1 ρ1 μ1 ds le1 r1 sr q1 =>
  cases sr with
  | mk I fp P St hi g =>
  subst hi
  have hA := a.handled
  refine codeAny_forLoop_any (R := Lp G A F W Q X) (fun n s' => FI G F W step Q ds I fp P St n s') (fun n s1 hI => ?_) ds.length ⟨0, W1, ρ1, μ1, (Nat.zero_add _).symm, le1, r1, g, q1⟩
  cases hI with
  | mk j W2 ρ2 μ2 hj le2 r2 g2 h2 =>
  cases n with
  | zero =>
    have ej : j = ds.length := hj.symm
    subst ej
    refine wpAny_mono (g2.done r2 hA) (fun q s3 h => ?_) fun zz zz h => h
    obtain ⟨hq, r3, _⟩ := h
    subst hq
    rw [List.drop_length] at h2
    exact wpAny_execs_nil ⟨W2, .next, ρ2, μ2, le2, r3, .next, h2⟩
  | succ n =>
    have hjl : j < ds.length := by rw [hj]; exact Nat.lt_add_of_pos_right (Nat.succ_pos n)
    rw [List.drop_eq_getElem_cons hjl] at h2
    refine wpAny_mono (g2.item r2 hA (List.getElem?_eq_getElem hjl)) (fun q s3 h => ?_) fun zz zz h => h
    obtain ⟨v, hq, hv, r3, g3, kp⟩ := h
    subst hq
    obtain ⟨oI, eI, qI⟩ := g3.ex _ _ g3.st
    refine go_quiet eI qI ?_ target
    refine wpAny_mono (hstep W2 A s3 ρ2 μ2 v ds[j] _ _ (a.up le2) r3 hv h2) (fun zz s4 h4 => ?_) fun zz zz h => h
    cases h4 with
    | mk ρ4 r4 kp4 w4 =>
    have g4 := g3.move hA (.refl W2) g3.out (fun o e => kp4 _ _ g3.out e) (φkeep (.refl W2) r3 r4)
    refine wpAny_mono (hold_run RF.unhold w4 [I] (fun c hc => List.mem_singleton.mp hc ▸ ⟨g4.out, oI, kp4 _ _ g3.out eI⟩) (a.up le2) r4) (fun f s5 h5 => ?_) fun x s' p => noted_ a hF (p.up le2)
    cases h5 with
    | mk W5 f' ρ5 μ5 le5 r5 hf q5 hk =>
    obtain ⟨hI5, kI5⟩ := hk I (List.mem_singleton.mpr rfl)
    have le := le2.trans le5
    have nx : forC step (ds.drop (j + 1)) ρ5 μ5 Q → ∃ m, m < n + 1 ∧ FI G F W step Q ds I fp P St m s5 := fun h =>
      ⟨n, Nat.lt_succ_self n, j + 1, W5, ρ5, μ5, by rw [hj, Nat.add_assoc, Nat.add_comm 1 n], le, r5, g4.move hA le5 hI5 kI5 (φkeep le5 r4 r5), h⟩
    cases hf with
    | next => exact nx q5
    | cont => exact nx q5
    | brk => exact ⟨W5, .next, ρ5, μ5, le, r5, .next, q5⟩
    | ret hv => exact ⟨W5, .ret _, ρ5, μ5, le, r5, .ret hv, q5⟩
theorem as_name {x : Str} {p : Pos} {i : Nat} {ρ' : Rho} {v : Value} {d : D} {t : Sem Flow} {K : FQ} {E : Value → Shared → Prop} (hi : F.vars[i]? = some x) (hk : CanSto F x) (r : Rel G F W ρ' μ s) (hv : V W.π W.φ v d) (h : WG G F k RF (put ρ' i (some d)) μ t K X) :
    wpAny G.M A (assign (.Name x p) F.env v) (fun zz s' => AsQ G F W k μ t K X s s') E s :=
  wpAny_mono (assign_name r hi hv hk) (fun zz s' h' => ⟨_, h'.1, h'.2, h⟩) fun zz zz h => h
theorem twoE {d : D} {K : D → D → Prop} (h : two d K) : ∃ a b, d = .tup [a, b] ∧ K a b := by
  obtain ⟨l, e, a, b, el, h⟩ := asTE h
  exact ⟨a, b, by rw [e, el], h⟩
theorem as_two {x y : Str} {p p' p'' : Pos} {n : Nat} {i j : Nat} {ρ' : Rho} {v : Value} {d1 d2 : D} {E : Value → Shared → Prop} (hi : F.vars[i]? = some x) (hj : F.vars[j]? = some y) (hx : CanSto F x) (hy : CanSto F y) (a : AOk F W k A) (r : Rel G F W ρ' μ s) (hv : V W.π W.φ v (.tup [d1, d2])) :
    wpAny G.M A (assign (.Tuple [.Name x p', .Name y p''] n p) F.env v) (fun zz s' => Rel G F W (put (put ρ' i (some d1)) j (some d2)) μ s' ∧ ∀ b o, Out F W b → s.heap.get? b = some o → s'.heap.get? b = some o) E s := by
  obtain ⟨b, vs, m, e, hb, rl⟩ := hv.tupE
  subst e
  obtain ⟨v1, v2, hvs, h1, h2⟩ := Vs.two rl
  have hsz : vs.size = 2 := by rw [← Array.length_toList, hvs]; rfl
  have ht : s.heap.IsTuple b vs := r.isT hb
  refine wpAny_assign_Tuple a.handled ht (by rw [hsz]; rfl) rfl fun h' hx' => ?_
  have kp : ∀ c o, s.heap.get? c = some o → h'.get? c = some o := fun c o e => hx' c o (Nat.ne_of_lt (Heap.lt_size e)) e
  rw [hvs]
  show wpAny _ A (do holding [v2] (assign (.Name x p') F.env v1); do holding [] (assign (.Name y p'') F.env v2); pure ()) _ _ _
  refine wpAny_bind (wpAny_holding (wpAny_mono (assign_name (r.keeps (t := s.toks) kp) hi h1 hx) (fun zz s2 h3 => wpAny_bind (wpAny_holding (wpAny_mono (assign_name h3.1 hj h2 hy) (fun zz s3 h4 => wpAny_pure ⟨h4.1, fun c o q e => h4.2 c o q (h3.2 c o q (kp c o e))⟩) fun zz zz h => h))) fun zz zz h => h))
theorem x_set2 {x y : Str} {i j : Nat} {e : Expr} {p p' p'' p3 : Pos} {n : Nat} (hi : F.vars[i]? = some x) (hj : F.vars[j]? = some y) (hx : CanSto F x) (hy : CanSto F y) (hc : callLike e = true)
    (h : WG G F k RV ρ μ (eval e F.env) (Un ρ fun d μ' => two d fun a b => Q .next (put (put ρ i (some a)) j (some b)) μ') X) : WG G F k RF ρ μ (exec (.Assign [.Tuple [.Name x p', .Name y p''] n p3] e p) F.env) Q X := fun W A s a r => by
  have hsw : swapsWith e (some (.Tuple [.Name x p', .Name y p''] n p3)) p.line F.env = pure false ∧ swappedStores [.Tuple [.Name x p', .Name y p''] n p3] e F.env = pure none := by
    cases e <;> first | exact ⟨rfl, rfl⟩ | exact ff_tt hc
  refine wpAny_Assign_stores (wp2 (.refl W) h a r (fun v s1 W1 d ρ1 μ1 le1 a1 r1 v1 q1 => ?_) fun zz zz p => p) hsw.1 hsw.2
  obtain ⟨e1, q1⟩ := q1
  subst e1
  obtain ⟨d1, d2, e2, q2⟩ := twoE q1
  subst e2
  show wpAny _ A (assign (.Tuple [.Name x p', .Name y p''] n p3) F.env v) _ _ _
  exact wpAny_mono (as_two (n := n) (p := p3) hi hj hx hy a1 r1 v1) (fun zz s2 h2 => ⟨W1, .next, _, _, le1, h2.1, .next, q2⟩) fun zz zz h => h
end
section
variable {G : GG} {F : Fm} {k : Nat} {ρ : Rho} {μ : Mu} {W : Wd} {s : Shared} {A : Around} {Q : FQ} {X : MX}
theorem x_setI {o i e : Expr} {p p' : Pos} (hc : compLike e = false)
    (h : WG G F k RV ρ μ (eval e F.env) (fun d ρ₁ μ₁ => WG G F k RV ρ₁ μ₁ (eval o F.env) (fun x ρ₂ μ₂ => WG G F k RV ρ₂ μ₂ (eval i F.env) (fun n ρ₃ μ₃ => setI x n d μ₃ (Q .next ρ₃)) X) X) X) : WG G F k RF ρ μ (exec (.Assign [.Subscript o i p'] e p) F.env) Q X := fun W A s a r =>
  wpAny_Assign_Subscript (wp2 (.refl W) h a r (fun v s1 W1 d ρ1 μ1 le1 a1 r1 v1 q1 => wp2 le1 q1 a1 r1 (fun u s2 W2 x ρ2 μ2 le2 a2 r2 v2 q2 => wp2 (le1.trans le2) q2 a2 r2 (fun iv s3 W3 n ρ3 μ3 le3 a3 r3 v3 q3 => by
    obtain ⟨m, ex, q4⟩ := asME q3
    obtain ⟨z, en, q5⟩ := asIE q4
    obtain ⟨l, el, q6⟩ := getMuE q5
    subst ex; subst en
    have v2' := v2.up le3
    obtain ⟨t, e3⟩ := v3.intE
    obtain ⟨b, us, nn, e2, hb, ho, hz, hv⟩ := r3.mutE v2' el
    subst e3; subst e2
    have hlen := hv.length
    rw [Array.length_toList] at hlen
    have hj : z.toNat < us.size := by have := q6.1; exact ar261 hlen this
    refine ki_setAt ho q6.1.1 (by unfold big at hz; omega) (Int.lt_of_toNat_lt hj) ?_
    obtain ⟨n', hd⟩ := Obj.data_mapSeq (o := listO us nn) rfl (·.setIfInBounds z.toNat v)
    have hnew := Heap.get?_update_self (Obj.mapSeq (·.setIfInBounds z.toNat v)) ho (Obj.isFreed_of_seq hd)
    refine ⟨W3, .next, ρ3, _, (le1.trans le2).trans le3, r3.mutSet (t := s3.toks) hb el upd_same hnew (by rw [Array.size_setIfInBounds]; exact hz) ?_, .next, q6.2⟩
    rw [Array.toList_setIfInBounds]
    exact hv.set z.toNat (v1.up (le2.trans le3))) fun zz zz p => p) fun zz zz p => p) fun zz zz p => p) (swaps_plain hc _ _ _)
theorem load_loc (r : Rel G F W ρ μ s) {x : Str} {i : Nat} {d : D} {P : Value → Shared → Prop} {E : Value → Shared → Prop} (hi : F.vars[i]? = some x) (hk : CanSto F x) (hd : look ρ i = some d) (h : ∀ v, V W.π W.φ v d → P v s) : wpAny G.M A (loadName F.env x) P E s := by
  obtain ⟨m, hm, hv⟩ := r.loc
  rcases hv i x hi with ⟨hk, f⟩ | ⟨hk', c, o, hc, hcell, f⟩
  · obtain ⟨v, e, hv⟩ := f d hd
    exact wpAny_loadName_local r.ok.kind hk hm e (h v hv)
  · obtain ⟨v, rfl, hv⟩ := f d hd
    rcases hk' with hk' | hk'
    · exact wpAny_loadName_cell r.ok.kind hk' hc hcell (h v hv)
    · rcases hk with hk | ⟨hk, _⟩ <;> (rw [hk] at hk'; cases hk')
theorem x_aug {x : Str} {i : Nat} {o : Bop} {d : D} {e : Expr} {p p' : Pos} (hi : F.vars[i]? = some x) (hk : CanSto F x) (hd : look ρ i = some d)
    (h : WG G F k RV ρ μ (eval e F.env) (Un ρ fun y μ' => vcAug o d y fun d => Q .next (put ρ i (some d)) μ') X) : WG G F k RF ρ μ (exec (.AugAssign (.Name x p') (bopOp o) e p) F.env) Q X := fun W A s a r =>
  wpAny_AugAssign_Name (load_loc r hi hk hd fun u hu => wp2 (.refl W) h a r (fun v s1 W1 y ρ1 μ1 le1 a1 r1 v1 q1 => by
    obtain ⟨e1, q1⟩ := q1
    subst e1
    refine wpAny_mono (aug_sound (Q := fun d ρ' μ' => ρ' = ρ1 ∧ Q .next (put ρ1 i (some d)) μ') (X := X) (by
      have e : (fun d => (fun d ρ' μ' => ρ' = ρ1 ∧ Q .next (put ρ1 i (some d)) μ') d ρ1 μ1) = fun d => Q .next (put ρ1 i (some d)) μ1 := funext fun d => propext ⟨And.right, fun h => ⟨rfl, h⟩⟩
      rw [e]; exact q1) W1 A s1 u v a1 r1 (hu.up le1) v1) (fun w s2 p => ?_) fun zz zz p => p.up le1
    cases p with
    | mk W2 d2 ρ2 μ2 le2 r2 v2 q2 =>
      obtain ⟨e2, q2⟩ := q2
      subst e2
      exact wpAny_mono (r2.store hi v2 hk) (fun zz s3 h3 => ⟨W2, .next, _, _, le1.trans le2, h3.1, .next, q2⟩) fun zz zz p => p) fun zz zz p => p)
theorem ve_boot : bootBuiltins "ValueError" = some (.type "ValueError") := by kernel_rfl
theorem x_raise {e : Expr} {p p' p'' : Pos} (hk : F.env.kindOf "ValueError" = some .globalImplicit) (hpl : plainB e = true) (h : WG G F k RV ρ μ (eval e F.env) (Un ρ fun d μ' => asS d fun m => X m ρ μ') X) :
    WG G F k RF ρ μ (exec (.Raise (some (.Call (.Name "ValueError" p') [e] [] p'')) none p) F.env) Q X := fun W A s a r => by
  refine wpAny_Raise_call PySem.F.excCall_ValueError PySem.F.excRaise_ValueError a.handled (back_plain p'' F.env (es := [e]) (by rw [List.all_cons, hpl]; rfl)).1 (load_bi r (by decide +kernel) (by decide +kernel) ve_boot hk (by decide +kernel) ⟨rfl, ?_⟩)
  rw [back_cons hpl [] p'' F.env]
  refine evalArgs_plain ?_
  rw [← back_cons hpl [] p'' F.env]
  refine args_cons (wp2 (.refl W) h a r (fun v s1 W1 d ρ1 μ1 le1 a1 r1 v1 q1 => ?_) fun zz zz p => p) (star_plain hpl [] F.env)
  refine args_nil ⟨rfl, by show (1 : Nat) ≤ _; decide, fun h' e hm => ?_⟩
  obtain ⟨e1, q1⟩ := q1
  subst e1
  obtain ⟨m, rfl, q1⟩ := asSE q1
  obtain ⟨y, t, rfl, ey⟩ := v1.strE
  obtain ⟨tp, h1, h2, h3⟩ := hm.there
  have r2 := r1.keeps (t := s1.toks) hm.keeps
  exact ⟨W1, e, m, ρ1, μ1, le1, r2, rfl, ⟨_, _, tp, _, y, t, _, h1, rfl, rfl, rfl, rfl, h3, rfl, rfl, ey, r1.out_new hm.new, (fun z => by rw [z, h3] at h1; exact absurd (congrArg Obj.cls (Option.some.inj h1)) (show ¬ (Value.type "tuple" = Value.type "ValueError") by decide)), .inl ⟨rfl, rfl⟩⟩, q1⟩
end
section
set_option tactic.hygienic true
variable {G : GG} {F : Fm} {k : Nat} {ρ : Rho} {μ : Mu} {W : Wd} {s : Shared} {A : Around} {Q : FQ} {X : MX}
theorem Rel.recast (r : Rel G F W ρ μ s) {x : Str} {i : Nat} {d : D} (hi : F.vars[i]? = some x) (h : ∀ v d', look ρ i = some d' → V W.π W.φ v d' → V W.π W.φ v d) (hd : ∃ d', look ρ i = some d') : Rel G F W (put ρ i (some d)) μ s := by
  obtain ⟨m, hm, hv⟩ := r.loc
  refine ⟨r.wr, r.ok, ⟨m, hm, fun j y hy => ?_⟩, r.priv, r.pnd, r.cells, r.cnd, r.there⟩
  by_cases q : i = j
  · subst q
    obtain ⟨d', e⟩ := hd
    refine (hv i y hy).imp (fun z => ⟨z.1, fun d'' e2 => ?_⟩) fun zz1 => zz1.elim fun a zz2 => zz2.elim fun c zz3 => zz3.elim fun o zz4 => zz4.elim fun p zz5 => zz5.elim fun g z => ⟨a, c, o, p, g, fun d'' e2 => ?_⟩
    · obtain ⟨v, e3, e4⟩ := z.2 d' e
      cases put_own d'' e2
      exact ⟨v, e3, h v d' e e4⟩
    · obtain ⟨v, e3, e4⟩ := z d' e
      cases put_own d'' e2
      exact ⟨v, e3, h v d' e e4⟩
  · rw [put_other q]; exact hv j y hy
theorem x_frz {α β : Type} {R : Wd → α → β → Prop} {t : Sem α} {Q : β → Rho → Mu → Prop} {x : Str} {i a : Nat} {l : List D} (hi : F.vars[i]? = some x) (hd : look ρ i = some (.mut a)) (hl : μ[a]? = some (some l))
    (h : WG G F k R (put ρ i (some (.list l))) (μ.set a none) t Q X) : WG G F k R ρ μ t Q X := fun W A s ak r => by
  have hlt : a < W.π.length := by rw [r.wr.len]; exact (List.getElem?_eq_some_iff.mp hl).1
  have hb : W.π[a]? = some W.π[a] := List.getElem?_eq_getElem hlt
  obtain ⟨vs, n, ho, hz, hv⟩ := r.wr.muts a _ l hb hl
  obtain ⟨r2, le⟩ := r.retire hb hl ho
  have r3 := r2.recast (d := .list l) hi (fun v d' e hv' => by
    rw [hd] at e
    cases e
    cases hv'
    rename_i b hb'
    rw [hb] at hb'
    cases hb'
    exact .list (PMap.set_at _ _ _) hz (hv.up le)) ⟨_, hd⟩
  exact wpAny_mono (h _ A s (ak.up le) r3) (fun zz zz p => p.up le) fun zz zz p => p.up le
theorem x_tryNo {b : List Stmt} {h₀ : ExceptHandler} {hs : List ExceptHandler} {p : Pos} (h : WG G F k RF ρ μ (execs b F.env) Q fun zz zz zz => False) : WG G F k RF ρ μ (exec (.Try b (h₀ :: hs) [] [] p) F.env) Q X := fun W A s a r =>
  wpAny_Try_except (wpAny_mono (h W A s a r) (fun f s1 p => by
    cases f with
    | next => exact wpAny_execs_nil p
    | _ => exact p) fun x s1 p => by cases p with | mk _ _ _ _ _ _ _ _ _ q => exact q.elim)
theorem ve_exc : isSubtype (.type "ValueError") (.type "BaseException") = pure true := PySem.F.excRaise_ValueError.isExc
theorem ve_ve : isSubtype (.type "ValueError") (.type "ValueError") = pure true := isSubtype_of_subB (by decide +kernel)
theorem caught {x : Value} {hs : List ExceptHandler} {P : Flow → Shared → Prop} {E : Value → Shared → Prop} (a : AOk F W k A) (hF : F.isFn = true) (p : PX G F W X x s)
    (h : ∀ W' e msg ρ' μ' s', W.le W' → Rel G F W' ρ' μ' s' → x = .ref e → Trk F W' s'.heap e msg → X msg ρ' μ' → wpAny G.M A (handleBy (.ref e) F.env hs) P E s') :
    wpAny G.M A (noteFrame x F.env) (fun zz s₂ => wpAny G.M A (setFlight x none) (fun zz s₃ => wpAny G.M A (handleBy x F.env hs) P E s₃) E s₂) E s := by
  cases p with
  | mk W1 e msg ρ1 μ1 le r hx ex q =>
  subst hx
  refine wpAny_mono (note_ r (a.up le) hF ex) (fun zz s1 n => ?_) fun zz zz h => h
  cases n with
  | mk r1 x1 =>
  refine wpAny_mono (flight_ r1 x1 none) (fun zz s2 n => ?_) fun zz zz h => h
  cases n with
  | mk r2 x2 => exact h W1 e msg ρ1 μ1 s2 le r2 rfl x2 q
theorem x_tryNone {b : List Stmt} {p p1 p2 p3 p4 : Pos} {n : Nat} (hF : F.isFn = true) (hk : F.env.kindOf "ValueError" = some .globalImplicit) (h : WG G F k RF ρ μ (execs b F.env) Q fun zz ρ' μ' => Q (.ret .none) ρ' μ') :
    WG G F k RF ρ μ (exec (.Try b [.ExceptHandler (some (.Name "ValueError" p1)) none [.Return (some (.Constant .none n p2)) p3] p4] [] [] p) F.env) Q X := fun W A s a r =>
  wpAny_Try_except (wpAny_mono (h W A s a r) (fun f s1 p => by
    cases f with
    | next => exact wpAny_execs_nil p
    | _ => exact p) fun x s1 p => caught a hF p fun W' e msg ρ' μ' s' le r' hx x' q => by
      refine wpAny_handleBy_builtin ve_exc PySem.F.notTuple_ValueError ve_ve (load_bi r' (by decide +kernel) (by decide +kernel) ve_boot hk (by decide +kernel) ⟨rfl, ?_, ?_⟩)
      · cases x' with
        | mk oe vs t ot y tk n he hc hd hz h0 ht htc htd hx ho hne tr => exact ⟨oe, he, hc⟩
      · refine wpAny_mono (flight_ r' x' none) (fun zz s3 n => ?_) fun _ _ (f : False) => f.elim
        cases n with
        | mk r3 x3 => exact wpAny_execs_cons (wpAny_Return_some fun zz zz zz => ⟨W', .ret .none, ρ', μ', le, r3, .ret .none, q⟩))
theorem ExcD.keeps {O : Addr → Prop} {b : Bool} {h h' : Heap} {e : Addr} {msg : List Nat} (x : ExcD O b h e msg) (k1 : ∀ a o, O a → h.get? a = some o → h'.get? a = some o) (k2 : ∀ a o vs n, o.data = .seq vs n → h.get? a = some o → h'.get? a = some o) : ExcD O b h' e msg := by
  cases x with
  | mk oe vs t ot y tk n he hc hd hz h0 ht htc htd hx ho hne tr =>
    refine .mk oe vs t ot y tk n (k1 _ _ ho he) hc hd hz h0 (k2 _ _ _ _ htd ht) htc htd hx ho hne (tr.imp id fun q => ?_)
    cases q with
    | mk T oT ts h1 ho hTe hTt hT hd hz => exact .mk T oT ts h1 ho hTe hTt (k1 _ _ ho hT) hd hz
theorem str_boot : bootBuiltins "str" = some (.type "str") := by kernel_rfl
theorem x_tryStr {b : List Stmt} {i j : Nat} {nm wd : Str} {p p1 p2 p3 p4 p5 p6 p7 : Pos} (hF : F.isFn = true) (hk : F.env.kindOf "ValueError" = some .globalImplicit) (hks : F.env.kindOf "str" = some .globalImplicit) (hi : F.vars[i]? = some nm) (hn : F.env.kindOf nm = some .local)
    (hnd : (nm == ("__debug__" : Str)) = false) (hj : F.vars[j]? = some wd) (hw : F.env.kindOf wd = some .local)
    (h : WG G F k RF ρ μ (execs b F.env) Q fun m ρ' μ' => m.length ≤ big ∧ Q .next (put (put (put ρ' i none) j (some (.str m))) i none) μ') :
    WG G F k RF ρ μ (exec (.Try b [.ExceptHandler (some (.Name "ValueError" p1)) (some nm) [.Assign [.Name wd p2] (.Call (.Name "str" p3) [.Name nm p4] [] p5) p6] p7] [] [] p) F.env) Q X := fun W A s a r =>
  wpAny_Try_except (wpAny_mono (h W A s a r) (fun f s1 p => by
    cases f with
    | next => exact wpAny_execs_nil p
    | _ => exact p) fun x s1 p => caught a hF p fun W' e msg ρ' μ' s' le r' hx x' q => by
      refine wpAny_handleBy_builtin_as ve_exc PySem.F.notTuple_ValueError ve_ve (load_bi r' (by decide +kernel) (by decide +kernel) ve_boot hk (by decide +kernel) ⟨rfl, ?_, ?_⟩)
      · cases x' with
        | mk oe vs t ot y tk n he hc hd hz h0 ht htc htd hx ho hne tr => exact ⟨oe, he, hc⟩
      · refine wpAny_mono (flight_ r' x' none) (fun zz s3 n => ?_) fun _ _ (f : False) => f.elim
        cases n with
        | mk r3 x3 =>
        obtain ⟨m, hm, _⟩ := r3.loc
        refine wpAny_storeName_local hn hm (fun h' hn' sb => ?_) r3.ok.plain
        have r4 := r3.locset (t := s3.toks + 1) (i := i) (od := none) hi hn hm hn' (fun y q => if_neg q) sb fun d q => nomatch q
        obtain ⟨oL, esL, epL, eL, dL⟩ := r3.locals
        have x4 : Trk F W' h' e msg := x3.keeps (fun c o hc eo => (sb.2 c fun z => hc.2.2.2.2 (z ▸ List.mem_cons_self ..)).trans eo) fun c o us n hd eo => (sb.2 c fun z => by rw [z, eL] at eo; cases eo; rw [dL] at hd; cases hd).trans eo
        refine wpAny_execs_cons (wpAny_Assign_Name (wpAny_Call_ofName ?_) rfl)
        refine load_bi (v := .type "str") r4 (by decide +kernel) (by decide +kernel) str_boot hks (by decide +kernel) ?_
        refine callWith_type1 (wpAny_Name (wpAny_loadName_local r4.ok.kind hn hn' (if_pos rfl) ?_) hnd)
        have hu : (A.mark (some (.ref e))).units + 2 < cLine := by
          have := a.units
          rw [Around.mark_units]; unfold cLine; exact ar262 this
        cases x4 with
        | mk oe vs t ot y tk n he hc hd hz h0 ht htc htd hx ho hne tr =>
        refine PySem.P.str_of_exc_one PySem.F.excStr_ValueError hu ⟨oe, vs, he, hc, hd, h0⟩ ⟨ot, n, ht, htc, htd⟩ ?_
        refine wpAny_mono (r4.store hj (.strI hx q.1) (.inl hw)) (fun zz s5 h5 => ?_) fun _ _ (f : False) => f.elim
        obtain ⟨r5, _⟩ := h5
        obtain ⟨m5, hm5, _⟩ := r5.loc
        refine wpAny_execs_nil (wpAny_nameGoes_keeps hn hm5 r5.ok.plain fun h6 v6 hn6 sb6 => ?_)
        have r6 := r5.locset (t := s5.toks + 1) (i := i) (od := none) hi hn hm5 hn6 (fun y q => if_neg q) sb6 fun d q => nomatch q
        exact ⟨W', .next, _, μ', le, r6, .next, q.2⟩)
end
section
variable {G : GG} {F : Fm} {k : Nat} {ρ : Rho} {μ : Mu} {W : Wd} {s : Shared} {A : Around} {Q : FQ} {X : MX} {sc : Sc}
theorem swaps_lc (elt : Expr) (gens : List Comprehension) (inner : Scope) (p : Pos) (y : Str) (py : Pos) (l : Nat) (env : Env) : ∃ b, swapsWith (.ListComp elt gens inner p) (some (.Name y py)) l env = pure b := ⟨_, rfl⟩
theorem x_setLc {y : Str} {i m : Nat} {elt : Expr} {gens : List Comprehension} {inner : Scope} {p py p' : Pos} (hi : F.vars[i]? = some y) (hk : CanSto F y) (hF : FmSc F sc)
    (h : LcOk G F k sc m elt inner gens ρ μ (fun d μ' => Q .next (put ρ i (some d)) μ') fun m => X m ρ) : WG G F k RF ρ μ (exec (.Assign [.Name y py] (.ListComp elt gens inner p) p') F.env) Q X := fun W A s a r => by
  cases h with
  | mk x px it ifs t step hg hs c hkd ht hstep hsrc =>
  subst hg
  obtain ⟨b, hb⟩ := swaps_lc elt [⟨.Name x px, it, ifs, 0⟩] inner p y py p'.line F.env
  cases b with
  | false =>
    refine wpAny_Assign_Name (wp2 (.refl W) (r_lc (pos := p) (QM := fun d μ' => Q .next (put ρ i (some d)) μ') (X := Un ρ fun m => X m ρ) (m == 1) hs hF c hkd ht hstep hsrc) a r (fun v s1 W1 d ρ1 μ1 le1 a1 r1 v1 q1 => ?_) fun x s' p => p.mono fun m ρ' μ' q => q.1 ▸ q.2) hb
    obtain ⟨e1, q1⟩ := q1
    subst e1
    exact wpAny_mono (r1.store hi v1 hk) (fun zz s2 h2 => ⟨W1, .next, _, _, le1, h2.1, .next, q1⟩) fun zz zz p => p
  | true =>
    rw [exec_Assign_Name_used _ _ _ _ hb]
    refine wpAny_bind (wpAny_standAt (wpAny_bind ?_))
    show wpAny _ A (do let _ ← comprehension (.ListComp elt [⟨.Name x px, it, ifs, 0⟩] inner p) inner F.env _ (newList []) false (eval it F.env) (some (assign (.Name y py) F.env))) _ _ s
    have core := lc_core (elt := elt) (px := px) (pos := p) (p0 := firstIterPos [⟨.Name x px, it, ifs, 0⟩] p) (use := some (assign (.Name y py) F.env)) (Q := fun zz s' => PQ G F W RF Q .next s') (X := X) (m == 1) hs hF c hkd ht hstep (fun W A s a r => wpAny_mono (hsrc W A s a r) (fun v s1 h1 => wpAny_mono h1 (fun zz zz p => p) fun zz zz p => p.mono fun m ρ' μ' q => q.1 ▸ q.2) fun zz zz p => p.mono fun m ρ' μ' q => q.1 ▸ q.2) a r fun D C s' as μ' W₂ hq hN le r2 hv hC => by
      obtain ⟨mm, oC, es, ep, eC, hN⟩ := hN
      refine wpAny_mono (assign_name r2 hi hv hk) (fun zz s2 h2 => ?_) fun zz zz p => p
      obtain ⟨r3, kp⟩ := h2
      refine ⟨mm, ⟨oC, es, ep, kp C oC hC eC, hN⟩, fun h' sb => ⟨W₂, .next, _, _, le, r3.touch (t := s2.toks) fun b o q e => (sb.2 b fun z => q (z ▸ hC)).trans e, .next, ?_⟩⟩
      cases hm : (m == 1) with
      | true => rw [hm] at hq; exact hq
      | false => rw [hm] at hq; exact hq
    exact wpAny_bind (wpAny_mono core (fun zz s1 p => wpAny_pure (wpAny_pure p)) fun zz zz p => p)
end
section
noncomputable def canSto (sc : Sc) (x : Str) : Bool := sc.lookup x == some .local || sc.lookup x == some .cell
noncomputable def whenV (c : Bool) (v : VS) : VS := match c with
  | true => v
  | false => vBad
noncomputable def atV (sc : Sc) (x : Str) (K : Nat → VS) : VS := match place x (varsOf sc) with
  | some i => whenV (canSto sc x) (K i)
  | none => vBad
noncomputable def listLike : Expr → Bool
  | .ListComp _ _ _ _ => true
  | _ => false
noncomputable def isNoneC : Expr → Bool
  | .Constant c _ _ => (match c with
    | .none => true
    | _ => false)
  | _ => false
noncomputable def isStr (n : Str) (e : Expr) : Bool := match asName e with
  | some x => x == n
  | none => false
noncomputable def retNone : Stmt → Bool
  | .Return v _ => (match v with
    | some e => isNoneC e
    | none => false)
  | _ => false
noncomputable def two2 (es : List Expr) : Option (Str × Str) := match es with
  | [] => none
  | a :: r => match r with
    | [] => none
    | b :: r => match r with
      | [] => (match asName a with
        | some x => (match asName b with
          | some y => some (x, y)
          | none => none)
        | none => none)
      | _ :: _ => none
noncomputable def one1 (es : List Expr) : Option Str := match es with
  | [] => none
  | a :: r => match r with
    | [] => asName a
    | _ :: _ => none
noncomputable def setComp : Expr → Option (Expr × Scope × Str × Expr)
  | .SetComp elt gens inner _ => (match gens with
    | [] => none
    | g :: r => match r with
      | [] => (match asName g.target with
        | some x => if (g.ifs.isEmpty && inner.kind == .function && g.is_async == 0 && !setLike g.iter) = true then some (elt, inner, x, g.iter) else none
        | none => none)
      | _ :: _ => none)
  | _ => none
noncomputable def setName : Stmt → Option (Str × Expr)
  | .Assign ts v _ => (match ts with
    | [] => none
    | t :: r => match r with
      | [] => (match asName t with
        | some x => some (x, v)
        | none => none)
      | _ :: _ => none)
  | _ => none
section
variable (G : GG) (k n : Nat) (sc : Sc) (hm : List (Nat × Nat)) (hz : List (Nat × Nat))
noncomputable abbrev tE (m : Nat) (e : Expr) : PE := trE (n + 1) sc m e
noncomputable def oneV (i : Nat) (c : Expr × Scope × Str × Expr) : VS := match place c.2.2.1 (varsOf c.2.1.names) with
  | some t => whenV (compOk sc c.2.1.names c.2.2.1) (vOne G k i (trE (n + 1) c.2.1.names 0 c.1) (capOf sc c.2.1.names) t (tE n sc 0 c.2.2.2))
  | none => vBad
noncomputable def tup1V (v : Expr) : Option Str → VS
  | some x => (match setComp v with
    | some c => atV sc x fun i => oneV G k n sc i c
    | none => vBad)
  | none => vBad
noncomputable def tgtV (m : Nat) (v : Expr) : Expr → VS
  | .Name x _ => atV sc x fun i => whenV (listLike v || !compLike v) (vSet G k i (tE n sc m v))
  | .Tuple es _ _ => (match two2 es with
    | some xy => whenV (callLike v) (atV sc xy.1 fun i => atV sc xy.2 fun j => vSet2 G k i j (tE n sc 0 v))
    | none => tup1V G k n sc v (one1 es))
  | .Subscript o i _ => whenV (!compLike v) (vSetI G k (tE n sc 0 o) (tE n sc 0 i) (tE n sc 0 v))
  | _ => vBad
noncomputable def asgV (m : Nat) (v : Expr) : List Expr → VS
  | [] => vBad
  | t :: r => match r with
    | [] => tgtV G k n sc m v t
    | _ :: _ => vBad
noncomputable def augV (o : Option Bop) (v : Expr) : Expr → VS
  | .Name x _ => (match o with
    | some o => atV sc x fun i => vAug G k i o (tE n sc 0 v)
    | none => vBad)
  | _ => vBad
noncomputable def frzV (o : Option Nat) (v : VS) : VS := match o with
  | some i => whenV (decide (i < (varsOf sc).length)) (vFrz i v)
  | none => v
noncomputable def for1V (it : Expr) (b : VS) (i : Nat) : VS := match callArg "reversed" sc it with
  | some e => (match rangeArg sc e with
    | some e => vRev G k i (tE n sc 0 e) b
    | none => vBad)
  | none => (match rangeArg sc it with
    | some e => vFor G k i true (tE n sc 0 e) b
    | none => vFor G k i false (tE n sc 0 it) b)
noncomputable def for2V (it : Expr) (b : VS) (i j : Nat) : VS := match callArg "enumerate" sc it with
  | some e => vEnum G k i j (tE n sc 0 e) b
  | none => vFor2 G k i j (tE n sc 0 it) b
noncomputable def forV (it : Expr) (b : VS) : Expr → VS
  | .Name x _ => atV sc x (for1V G k n sc it b)
  | .Tuple es _ _ => (match two2 es with
    | some xy => atV sc xy.1 fun i => atV sc xy.2 (for2V G k n sc it b i)
    | none => vBad)
  | _ => vBad
noncomputable def asV (b : VS) (x : Str) (st : Stmt) : VS := match setName st with
  | some ye => whenV (sc.lookup x == some .local && sc.lookup ye.1 == some .local && !(x == ("__debug__" : Str)) && globalIn sc "str") (match callArg "str" sc ye.2 with
    | some e => whenV (isStr x e) (match place x (varsOf sc) with
      | some i => (match place ye.1 (varsOf sc) with
        | some j => vTryStr b i j
        | none => vBad)
      | none => vBad)
    | none => vBad)
  | none => vBad
noncomputable def suiteV (b : VS) (name : Option Str) : List Stmt → VS
  | [] => vTryNo b
  | st :: r => match r with
    | [] => (match name with
      | some x => asV sc b x st
      | none => (match retNone st with
        | true => vTryNone b
        | false => vTryNo b))
    | _ :: _ => vTryNo b
noncomputable def handV (b : VS) : ExceptHandler → VS
  | .ExceptHandler t name suite _ => match t with
    | some e => (match isStr "ValueError" e && globalIn sc "ValueError" with
      | true => suiteV sc b name suite
      | false => vTryNo b)
    | none => vTryNo b
noncomputable def tryV (b : VS) : List ExceptHandler → VS
  | [] => vBad
  | h :: r => match r with
    | [] => handV sc b h
    | _ :: _ => vTryNo b
noncomputable def retV : Option Expr → VS
  | some e => vRet G k (tE n sc 0 e)
  | none => vBad
noncomputable def raiseV : Option Expr → VS
  | some e => (match callArg "ValueError" sc e with
    | some e => vRaise G k (tE n sc 0 e)
    | none => vBad)
  | none => vBad
noncomputable def trB (rec : Stmt → VS) : List Stmt → VS
  | [] => vSkip
  | st :: r => vSeq (rec st) (trB rec r)
noncomputable def stepS (rec : Stmt → VS) : Stmt → VS
  | .Assign ts v p => asgV G k n sc ((hm.lookup p.line).getD 0) v ts
  | .AugAssign t op v p => augV G k n sc (trOp op) v t
  | .If c b o p => vIf G k (tE n sc 0 c) (trB rec b) (trB rec o)
  | .While c b o p => whenV o.isEmpty (vWhile G k (tE n sc 0 c) (trB rec b))
  | .For t it b o p => whenV (o.isEmpty && !setLike it) (frzV sc (hz.lookup p.line) (forV G k n sc it (trB rec b) t))
  | .Return v p => frzV sc (hz.lookup p.line) (retV G k n sc v)
  | .Expr e p => whenV (!compLike e) (vExpr G k (tE n sc 0 e))
  | .Break p => vBrk
  | .Continue p => vCont
  | .Raise e c p => whenV c.isNone (raiseV G k n sc e)
  | .Assert c m p => vAssert G k (tE n sc 0 c)
  | .Try b hs o f p => whenV (o.isEmpty && f.isEmpty) (tryV sc (trB rec b) hs)
  | _ => vBad
noncomputable def trS : Nat → Stmt → VS
  | 0 => fun zz => vBad
  | d + 1 => stepS G k n sc hm hz (trS d)
end
end
section
variable {G : GG} {F : Fm} {k n : Nat} {ρ : Rho} {μ : Mu} {W : Wd} {s : Shared} {A : Around} {Q : FQ} {X : MX} {sc : Sc}
structure FmSt (F : Fm) (sc : Sc) : Prop where
  msc : FmSc F sc
  fn : F.isFn = true
  kind : ∀ x, F.env.kindOf x = sc.lookup x
noncomputable def SndS (G : GG) (k : Nat) (v : VS) (st : Stmt) (sc : Sc) : Prop := ∀ (F : Fm) (ρ : Rho) (μ : Mu) (Q : FQ) (X : MX), FmSt F sc → v ρ μ Q X → WG G F k RF ρ μ (exec st F.env) Q X
noncomputable def SndB (G : GG) (k : Nat) (v : VS) (b : List Stmt) (sc : Sc) : Prop := ∀ (F : Fm) (ρ : Rho) (μ : Mu) (Q : FQ) (X : MX), FmSt F sc → v ρ μ Q X → WG G F k RF ρ μ (execs b F.env) Q X
theorem globE {x : Str} (h : FmSt F sc) (hg : globalIn sc x = true) : F.env.kindOf x = some .globalImplicit := h.msc.glob x hg
theorem whenVE {c : Bool} {v : VS} (h : whenV c v ρ μ Q X) : c = true ∧ v ρ μ Q X := by
  cases c with
  | true => exact ⟨rfl, h⟩
  | false => exact h.elim
theorem atVE {x : Str} {K : Nat → VS} (hF : FmSt F sc) (h : atV sc x K ρ μ Q X) : ∃ i, F.vars[i]? = some x ∧ CanSto F x ∧ K i ρ μ Q X := by
  revert h
  show (match place x (varsOf sc) with | some i => whenV (canSto sc x) (K i) | none => vBad) ρ μ Q X → _
  cases hp : place x (varsOf sc) with
  | none => exact fun h => h.elim
  | some i =>
    intro h
    obtain ⟨h1, h2⟩ := whenVE h
    refine ⟨i, hF.msc.at hp, ?_, h2⟩
    unfold canSto at h1
    rw [Bool.or_eq_true] at h1
    exact h1.imp (fun q => (hF.kind x).trans (eq_of_beq q)) fun q => ⟨(hF.kind x).trans (eq_of_beq q), hF.fn⟩
theorem ofE {m : Nat} {e : Expr} {QE : D → Mu → Prop} (H : ∀ sc m e, SndE G k (trE (n + 1) sc m e) e sc) (hF : FmSt F sc) (h : vE G k (tE n sc m e) ρ μ QE X) : WG G F k RV ρ μ (eval e F.env) (Un ρ QE) X :=
  (H sc m e F ρ μ _ _ hF.msc h).mono (fun zz zz zz q => q) fun zz zz zz q => q.1 ▸ q.2
theorem ofC {e : Expr} {QB : Bool → Mu → Prop} (H : ∀ sc m e, SndC G k (trE (n + 1) sc m e) e sc) (hF : FmSt F sc) (h : vC G k (tE n sc 0 e) ρ μ QB X) : WG G F k RE ρ μ (isTrue e F.env (eval e F.env)) (Un ρ QB) X :=
  (H sc 0 e F ρ μ _ _ hF.msc h).mono (fun zz zz zz q => q) fun zz zz zz q => q.1 ▸ q.2
theorem seqU {α β : Type} {R : Wd → α → β → Prop} {t : Sem α} {P : β → Mu → Prop} {P' : β → Rho → Mu → Prop} (h : WG G F k R ρ μ t (Un ρ P) X) (hp : ∀ b μ', P b μ' → P' b ρ μ') : WG G F k R ρ μ t P' X :=
  h.mono (fun b ρ' μ' q => by obtain ⟨e, q⟩ := q; subst e; exact hp b μ' q) fun zz zz zz q => q
theorem not_of {c : Bool} (h : (!c) = true) : c = false := by cases c <;> first | rfl | exact ff_tt h
theorem thenQ_mono {K K' : Rho → Mu → Prop} (h : ∀ ρ μ, K ρ μ → K' ρ μ) (f : Fl) (ρ : Rho) (μ : Mu) (q : thenQ K Q f ρ μ) : thenQ K' Q f ρ μ := by
  cases f with
  | next => exact h ρ μ q
  | _ => exact q
theorem snd_trB {rec : Stmt → VS} (HS : ∀ st, SndS G k (rec st) st sc) : ∀ b, SndB G k (trB rec b) b sc
  | [], F, ρ, μ, Q, X, hF, h => x_nil h
  | st :: r, F, ρ, μ, Q, X, hF, h => x_cons ((HS st F ρ μ _ X hF h).mono (thenQ_mono fun ρ' μ' q => snd_trB HS r F ρ' μ' Q X hF q) fun zz zz zz q => q)
theorem two2E {es : List Expr} {xy : Str × Str} (h : two2 es = some xy) : ∃ p p', es = [.Name xy.1 p, .Name xy.2 p'] := by
  cases es with
  | nil => exact nosome h
  | cons a r => cases r with
    | nil => exact nosome h
    | cons b r => cases r with
      | cons _ _ => exact nosome h
      | nil =>
        revert h
        show (match asName a with | some x => (match asName b with | some y => some (x, y) | none => none) | none => none) = some xy → _
        cases ha : asName a with
        | none => exact fun h => nosome h
        | some x => cases hb : asName b with
          | none => exact fun h => nosome h
          | some y =>
            intro h
            cases h
            obtain ⟨p, rfl⟩ := asNameE ha
            obtain ⟨p', rfl⟩ := asNameE hb
            exact ⟨p, p', rfl⟩
variable (H : ∀ sc m e, SndE G k (trE (n + 1) sc m e) e sc) (H0 : ∀ sc m e, SndE G k (trE n sc m e) e sc) (HC0 : ∀ sc m e, SndC G k (trE n sc m e) e sc) (HC : ∀ sc m e, SndC G k (trE (n + 1) sc m e) e sc)
structure OneOk (G : GG) (k : Nat) : Prop where
  one : ∀ {F : Fm} {sc : Sc} {ρ : Rho} {μ : Mu} {Q : FQ} {X : MX} {elt it : Expr} {inner : Scope} {x y : Str} {i t c : Nat} {p1 p2 p3 p4 p5 : Pos} {QD : D → Mu → (D → Mu → Prop) → Prop}, FmSt F sc → F.vars[i]? = some y → CanSto F y → (∀ v, foldedSetIterable it F.env v = pure v) → CompSc sc inner.names x → inner.kind = .function → place x (varsOf inner.names) = some t →
    (∀ F' : Fm, FmSc F' inner.names → ∀ d μ' K, QD d μ' K → WG G F' k RV (put (capRho ρ (capOf sc inner.names)) t (some d)) μ' (eval elt F'.env) (Un (put (capRho ρ (capOf sc inner.names)) t (some d)) K) fun zz zz zz => False) →
    WG G F k RV ρ μ (eval it F.env) (Un ρ fun x μ₁ => asT x fun ds => ∃ b : Bool, (ds ≠ [] ∧ ds.length ≤ 2) ∧ (∀ d ∈ ds, QD d μ₁ fun y μ₂ => y = .bool b ∧ μ₂ = μ₁) ∧ Q .next (put ρ i (some (.bool b))) μ₁) X →
    WG G F k RF ρ μ (exec (.Assign [.Tuple [.Name y p1] c p2] (.SetComp elt [⟨.Name x p3, it, [], 0⟩] inner p4) p5) F.env) Q X
theorem one1E {es : List Expr} {y : Str} (h : one1 es = some y) : ∃ p, es = [.Name y p] := by
  cases es with
  | nil => exact nosome h
  | cons a r => cases r with
    | nil => obtain ⟨p, rfl⟩ := asNameE h; exact ⟨p, rfl⟩
    | cons _ _ => exact nosome h
theorem setCompE {v : Expr} {c : Expr × Scope × Str × Expr} (h : setComp v = some c) : ∃ p p', v = .SetComp c.1 [⟨.Name c.2.2.1 p, c.2.2.2, [], 0⟩] c.2.1 p' ∧ c.2.1.kind = .function ∧ setLike c.2.2.2 = false := by
  cases v with
  | SetComp elt gens inner p' => cases gens with
    | nil => exact nosome h
    | cons g r => cases r with
      | cons _ _ => exact nosome h
      | nil =>
        obtain ⟨tgt, it, ifs, isa⟩ := g
        revert h
        show (match asName tgt with | some x => if (ifs.isEmpty && inner.kind == .function && isa == 0 && !setLike it) = true then some (elt, inner, x, it) else none | none => none) = some c → _
        cases hn : asName tgt with
        | none => exact fun h => nosome h
        | some x =>
          intro h
          obtain ⟨p, rfl⟩ := asNameE hn
          change (if _ then _ else _) = _ at h
          by_cases q : (ifs.isEmpty && inner.kind == .function && isa == 0 && !setLike it) = true
          · rw [if_pos q] at h
            cases h
            rw [Bool.and_eq_true, Bool.and_eq_true, Bool.and_eq_true, List.isEmpty_iff] at q
            obtain ⟨⟨⟨q1, q2⟩, q3⟩, q4⟩ := q
            subst q1
            have q3 := eq_of_beq q3
            subst q3
            exact ⟨p, p', rfl, eq_of_beq q2, not_of q4⟩
          · rw [if_neg q] at h; exact nosome h
  | _ => exact nosome h
include H in
theorem snd_one (OO : OneOk G k) {es : List Expr} {v : Expr} {c : Nat} {p pt : Pos} (hF : FmSt F sc) (h : tup1V G k n sc v (one1 es) ρ μ Q X) : WG G F k RF ρ μ (exec (.Assign [.Tuple es c pt] v p) F.env) Q X := by
  revert h
  cases h1 : one1 es with
  | none => exact fun h => h.elim
  | some y =>
    show (match setComp v with | some c => atV sc y fun i => oneV G k n sc i c | none => vBad) ρ μ Q X → _
    cases h2 : setComp v with
    | none => exact fun h => h.elim
    | some cc =>
      intro h
      obtain ⟨p1, rfl⟩ := one1E h1
      obtain ⟨p2, p3, rfl, hk, hs⟩ := setCompE h2
      obtain ⟨i, hi, hki, h⟩ := atVE hF h
      revert h
      show (match place cc.2.2.1 (varsOf cc.2.1.names) with | some t => whenV (compOk sc cc.2.1.names cc.2.2.1) (vOne G k i (trE (n + 1) cc.2.1.names 0 cc.1) (capOf sc cc.2.1.names) t (tE n sc 0 cc.2.2.2)) | none => vBad) ρ μ Q X → _
      cases ht : place cc.2.2.1 (varsOf cc.2.1.names) with
      | none => exact fun h => h.elim
      | some t =>
        intro h
        obtain ⟨hc, h⟩ := whenVE h
        exact OO.one (QD := fun d μ₁ K => vcE G k (trE (n + 1) cc.2.1.names 0 cc.1) (put (capRho ρ (capOf sc cc.2.1.names)) t (some d)) μ₁ K fun zz zz => False) hF hi hki (fold_plain hs F.env) (compOkE hc) hk ht
          (fun F' hF' d μ' K q => by have := H cc.2.1.names 0 cc.1 F' _ μ' K _ hF' q; rw [un_false] at this; exact this) (ofE H hF h)
include H H0 HC0 in
theorem snd_asg (OO : OneOk G k) {m : Nat} {v : Expr} {ts : List Expr} {p : Pos} (hF : FmSt F sc) (h : asgV G k n sc m v ts ρ μ Q X) : WG G F k RF ρ μ (exec (.Assign ts v p) F.env) Q X := by
  cases ts with
  | nil => exact h.elim
  | cons t r => cases r with
    | cons _ _ => exact h.elim
    | nil => cases t with
      | Name x px =>
        obtain ⟨i, hi, hk, h⟩ := atVE hF h
        obtain ⟨hc, h⟩ := whenVE h
        have plain : compLike v = false → WG G F k RF ρ μ (exec (.Assign [.Name x px] v p) F.env) Q X := fun hc => x_set hi hk hc (ofE H hF h)
        cases v with
        | ListComp elt gens inner pc => exact x_setLc hi hk hF.msc (lc_open H0 HC0 hF.msc h)
        | SetComp _ _ _ _ => exact ff_tt hc
        | DictComp _ _ _ _ _ => exact ff_tt hc
        | _ => exact plain rfl
      | Tuple es c pt =>
        revert h
        show (match two2 es with | some xy => whenV (callLike v) (atV sc xy.1 fun i => atV sc xy.2 fun j => vSet2 G k i j (tE n sc 0 v)) | none => tup1V G k n sc v (one1 es)) ρ μ Q X → _
        cases he : two2 es with
        | none => exact fun h => snd_one H OO hF h
        | some xy =>
          intro h
          obtain ⟨p1, p2, rfl⟩ := two2E he
          obtain ⟨hc, h⟩ := whenVE h
          obtain ⟨i, hi, hki, h⟩ := atVE hF h
          obtain ⟨j, hj, hkj, h⟩ := atVE hF h
          exact x_set2 hi hj hki hkj hc (ofE H hF h)
      | Subscript o i pt =>
        obtain ⟨hc, h⟩ := whenVE h
        exact x_setI (not_of hc) (seqU (ofE H hF h) fun d μ₁ h => seqU (ofE H hF h) fun x μ₂ h => seqU (ofE H hF h) fun y μ₃ h => h)
      | _ => exact h.elim
include H in
theorem snd_aug {op : Operator} {v t : Expr} {p : Pos} (hF : FmSt F sc) (h : augV G k n sc (trOp op) v t ρ μ Q X) : WG G F k RF ρ μ (exec (.AugAssign t op v p) F.env) Q X := by
  cases t with
  | Name x px =>
    revert h
    show (match trOp op with | some o => atV sc x fun i => vAug G k i o (tE n sc 0 v) | none => vBad) ρ μ Q X → _
    cases ho : trOp op with
    | none => exact fun h => h.elim
    | some o =>
      intro h
      rw [trOpE ho]
      obtain ⟨i, hi, hk, h⟩ := atVE hF h
      revert h
      show (match look ρ i with | some x => vE G k (tE n sc 0 v) ρ μ (fun y μ' => vcAug o x y fun d => Q .next (put ρ i (some d)) μ') X | none => False) → _
      cases hd : look ρ i with
      | none => exact fun h => h.elim
      | some d => exact fun h => x_aug hi hk hd (ofE H hF h)
  | _ => exact h.elim
theorem frzVE {o : Option Nat} {v : VS} {t : Sem Flow} (hF : FmSt F sc) (h : frzV sc o v ρ μ Q X) (hv : ∀ ρ μ, v ρ μ Q X → WG G F k RF ρ μ t Q X) : WG G F k RF ρ μ t Q X := by
  cases o with
  | none => exact hv ρ μ h
  | some i =>
    obtain ⟨hlt, h⟩ := whenVE h
    have hlt := of_decide_eq_true hlt
    revert h
    show (match look ρ i with | some d => asM d fun a => getMu μ a fun l => v (put ρ i (some (.list l))) (μ.set a none) Q X | none => False) → _
    cases hd : look ρ i with
    | none => exact fun h => h.elim
    | some d =>
      intro h
      obtain ⟨a, rfl, h⟩ := asME h
      obtain ⟨l, hl, h⟩ := getMuE h
      exact x_frz (x := (varsOf sc)[i]) (by rw [hF.msc.vars]; exact List.getElem?_eq_getElem hlt) hd hl (hv _ _ h)
end
section
variable {G : GG} {F : Fm} {k n : Nat} {ρ : Rho} {μ : Mu} {W : Wd} {s : Shared} {A : Around} {Q : FQ} {X : MX} {sc : Sc}
theorem src_plainU {it : Expr} {QL : List D → Mu → Prop} (h : WG G F k RV ρ μ (eval it F.env) (Un ρ fun x μ₁ => itemsD' x fun ds => QL ds μ₁) X) : SrcW G F k it ρ μ (fun ds ρ₁ μ₁ => ρ₁ = ρ ∧ QL ds μ₁) X := src_plain (seqU h fun x μ₁ q => by
  unfold itemsD' at q ⊢
  cases hx : itemsOf x with
  | none => rw [hx] at q; exact q
  | some ds => rw [hx] at q; exact ⟨rfl, q⟩)
theorem src_rangeU {e : Expr} {p p' : Pos} {QL : List D → Mu → Prop} (hk : F.env.kindOf "range" = some .globalImplicit) (hpl : plainB e = true) (h : WG G F k RV ρ μ (eval e F.env) (Un ρ fun x μ₁ => srcD true x fun ds => QL ds μ₁) X) :
    SrcW G F k (.Call (.Name "range" p') [e] [] p) ρ μ (fun ds ρ₁ μ₁ => ρ₁ = ρ ∧ QL ds μ₁) X := src_range hk hpl (seqU h fun x μ₁ q => by
  obtain ⟨n, rfl, h1, h2⟩ := asIE q
  exact ⟨h1, rfl, h2⟩)
theorem SrcW.mono {it : Expr} {Q Q' : List D → Rho → Mu → Prop} (h : SrcW G F k it ρ μ Q X) (hq : ∀ ds ρ μ, Q ds ρ μ → Q' ds ρ μ) : SrcW G F k it ρ μ Q' X := fun W A s a r =>
  wpAny_mono (h W A s a r) (fun v s1 h1 => wpAny_mono h1 (fun it s2 h2 => by cases h2 with | mk W' ρ' μ' ds le r sr q => exact .mk W' ρ' μ' ds le r sr (hq _ _ _ q)) fun zz zz p => p) fun zz zz p => p
structure Odd (G : GG) (k : Nat) : Prop extends OneOk G k where
  rev : ∀ {F : Fm} {sc : Sc} {ρ : Rho} {μ : Mu} {QL : List D → Mu → Prop} {X : MX} {e : Expr} {p1 p2 p3 p4 : Pos}, FmSt F sc → F.env.kindOf "range" = some .globalImplicit → F.env.kindOf "reversed" = some .globalImplicit → plainB e = true →
    WG G F k RV ρ μ (eval e F.env) (Un ρ fun x μ₁ => asI x fun n => (0 ≤ n ∧ n ≤ 1000000) ∧ QL (rangeD n).reverse μ₁) X → SrcW G F k (.Call (.Name "reversed" p1) [.Call (.Name "range" p2) [e] [] p3] [] p4) ρ μ (fun ds ρ₁ μ₁ => ρ₁ = ρ ∧ QL ds μ₁) X
  enum : ∀ {F : Fm} {sc : Sc} {ρ : Rho} {μ : Mu} {Q : FQ} {X : MX} {e : Expr} {x y : Str} {p1 p2 p3 p4 p5 p : Pos} {c i j : Nat} {b : List Stmt} {step : D → Rho → Mu → FQ → Prop}, FmSt F sc → F.env.kindOf "enumerate" = some .globalImplicit → plainB e = true → F.vars[i]? = some x → F.vars[j]? = some y → CanSto F x → CanSto F y →
    (∀ ρ' μ' d K, step d ρ' μ' K → two d fun a a' => WG G F k RF (put (put ρ' i (some a)) j (some a')) μ' (execs b F.env) K X) →
    WG G F k RV ρ μ (eval e F.env) (Un ρ fun x μ₁ => asL x fun ds => forC step (pairsD ds) ρ μ₁ Q) X → WG G F k RF ρ μ (exec (.For (.Tuple [.Name x p1, .Name y p2] c p3) (.Call (.Name "enumerate" p4) [e] [] p5) b [] p) F.env) Q X
variable (H : ∀ sc m e, SndE G k (trE (n + 1) sc m e) e sc) (O : Odd G k)
include H O in
theorem snd_for1 {x : Str} {it : Expr} {b : List Stmt} {v : VS} {i : Nat} {px p : Pos} (hF : FmSt F sc) (hB : SndB G k v b sc) (hs : setLike it = false) (hi : F.vars[i]? = some x) (hk : CanSto F x) (h : for1V G k n sc it v i ρ μ Q X) : WG G F k RF ρ μ (exec (.For (.Name x px) it b [] p) F.env) Q X := by
  have go : SrcW G F k it ρ μ (fun ds ρ₁ μ₁ => ρ₁ = ρ ∧ forC (step1 i v X) ds ρ μ₁ Q) X → WG G F k RF ρ μ (exec (.For (.Name x px) it b [] p) F.env) Q X := fun hsrc =>
    x_for (step := step1 i v X) hF.fn (fold_plain hs F.env) (fun W A s ρ' μ' v d K E a r hv hst => as_name hi hk r hv (hB F _ μ' K X hF hst)) (hsrc.mono fun ds ρ₁ μ₁ q => q.1 ▸ q.2)
  revert h
  show (match callArg "reversed" sc it with | some e => (match rangeArg sc e with | some e => vRev G k i (tE n sc 0 e) v | none => vBad) | none => (match rangeArg sc it with | some e => vFor G k i true (tE n sc 0 e) v | none => vFor G k i false (tE n sc 0 it) v)) ρ μ Q X → _
  cases hr : callArg "reversed" sc it with
  | some e =>
    show (match rangeArg sc e with | some e => vRev G k i (tE n sc 0 e) v | none => vBad) ρ μ Q X → _
    cases hg : rangeArg sc e with
    | none => exact fun h => h.elim
    | some e2 =>
      intro h
      obtain ⟨p1, p2, e1, g1, g2⟩ := callArgE hr
      obtain ⟨p3, p4, e3, g3, g4⟩ := callArgE hg
      subst e3; subst e1
      exact go (O.rev hF (globE hF g3) (globE hF g1) g4 (ofE H hF h))
  | none =>
    cases hg : rangeArg sc it with
    | some e2 =>
      intro h
      obtain ⟨p3, p4, rfl, g3, g4⟩ := callArgE hg
      exact go (src_rangeU (globE hF g3) g4 (ofE H hF h))
    | none => exact fun h => go (src_plainU (ofE H hF h))
include H O in
theorem snd_for2 {x y : Str} {it : Expr} {b : List Stmt} {v : VS} {i j c : Nat} {px py pt p : Pos} (hF : FmSt F sc) (hB : SndB G k v b sc) (hs : setLike it = false) (hi : F.vars[i]? = some x) (hj : F.vars[j]? = some y) (hx : CanSto F x) (hy : CanSto F y)
    (h : for2V G k n sc it v i j ρ μ Q X) : WG G F k RF ρ μ (exec (.For (.Tuple [.Name x px, .Name y py] c pt) it b [] p) F.env) Q X := by
  revert h
  show (match callArg "enumerate" sc it with | some e => vEnum G k i j (tE n sc 0 e) v | none => vFor2 G k i j (tE n sc 0 it) v) ρ μ Q X → _
  have two' : ∀ ρ' μ' d K, step2 i j v X d ρ' μ' K → two d fun a a' => WG G F k RF (put (put ρ' i (some a)) j (some a')) μ' (execs b F.env) K X := fun ρ' μ' d K h => by
    obtain ⟨a, a', e, h2⟩ := twoE h
    subst e
    exact ⟨a, a', rfl, hB F _ μ' K X hF h2⟩
  cases hr : callArg "enumerate" sc it with
  | some e =>
    intro h
    obtain ⟨p1, p2, rfl, g1, g2⟩ := callArgE hr
    exact O.enum (step := step2 i j v X) hF (globE hF g1) g2 hi hj hx hy two' (ofE H hF h)
  | none =>
    intro h
    refine x_for (step := step2 i j v X) hF.fn (fold_plain hs F.env) (fun W A s ρ' μ' u d K E a r hv hst => ?_) ((src_plainU (ofE H hF h)).mono fun ds ρ₁ μ₁ q => q.1 ▸ q.2)
    obtain ⟨a1, a2, e, hst2⟩ := twoE (two' ρ' μ' d K hst)
    subst e
    exact wpAny_mono (as_two hi hj hx hy a r hv) (fun zz s' h' => ⟨_, h'.1, h'.2, hst2⟩) fun zz zz h => h
include H O in
theorem snd_for {t it : Expr} {b : List Stmt} {v : VS} {p : Pos} (hF : FmSt F sc) (hB : SndB G k v b sc) (hs : setLike it = false) (h : forV G k n sc it v t ρ μ Q X) : WG G F k RF ρ μ (exec (.For t it b [] p) F.env) Q X := by
  cases t with
  | Name x px =>
    obtain ⟨i, hi, hk, h⟩ := atVE hF h
    exact snd_for1 H O hF hB hs hi hk h
  | Tuple es c pt =>
    revert h
    show (match two2 es with | some xy => atV sc xy.1 fun i => atV sc xy.2 (for2V G k n sc it v i) | none => vBad) ρ μ Q X → _
    cases he : two2 es with
    | none => exact fun h => h.elim
    | some xy =>
      intro h
      obtain ⟨p1, p2, rfl⟩ := two2E he
      obtain ⟨i, hi, hki, h⟩ := atVE hF h
      obtain ⟨j, hj, hkj, h⟩ := atVE hF h
      exact snd_for2 H O hF hB hs hi hj hki hkj h
  | _ => exact h.elim
include H in
theorem snd_raise {o c : Option Expr} {p : Pos} (hF : FmSt F sc) (hc : c.isNone = true) (h : raiseV G k n sc o ρ μ Q X) : WG G F k RF ρ μ (exec (.Raise o c p) F.env) Q X := by
  cases o with
  | none => exact h.elim
  | some e =>
    cases c with
    | some _ => exact ff_tt hc
    | none =>
      revert h
      show (match callArg "ValueError" sc e with | some e => vRaise G k (tE n sc 0 e) | none => vBad) ρ μ Q X → _
      cases hr : callArg "ValueError" sc e with
      | none => exact fun h => h.elim
      | some e2 =>
        intro h
        obtain ⟨p3, p4, rfl, g3, g4⟩ := callArgE hr
        exact x_raise (globE hF g3) g4 (ofE H hF h)
theorem isStrE {x : Str} {e : Expr} (h : isStr x e = true) : ∃ p, e = .Name x p := by
  revert h
  show (match asName e with | some y => y == x | none => false) = true → _
  cases hn : asName e with
  | none => exact fun h => ff_tt h
  | some y =>
    intro h
    obtain ⟨p, rfl⟩ := asNameE hn
    have := eq_of_beq h
    subst this
    exact ⟨p, rfl⟩
theorem setNameE {st : Stmt} {ye : Str × Expr} (h : setName st = some ye) : ∃ p p', st = .Assign [.Name ye.1 p] ye.2 p' := by
  cases st with
  | Assign ts v p => cases ts with
    | nil => exact nosome h
    | cons t r => cases r with
      | cons _ _ => exact nosome h
      | nil =>
        revert h
        show (match asName t with | some x => some (x, v) | none => none) = some ye → _
        cases hn : asName t with
        | none => exact fun h => nosome h
        | some x => intro h; cases h; obtain ⟨p', rfl⟩ := asNameE hn; exact ⟨_, _, rfl⟩
  | _ => exact nosome h
theorem retNoneE {st : Stmt} (h : retNone st = true) : ∃ n p p', st = .Return (some (.Constant .none n p)) p' := by
  cases st with
  | Return v p => cases v with
    | none => exact ff_tt h
    | some e => cases e with
      | Constant c n p => cases c with
        | none => exact ⟨_, _, _, rfl⟩
        | _ => exact ff_tt h
      | _ => exact ff_tt h
  | _ => exact ff_tt h
theorem snd_try {hs : List ExceptHandler} {b : List Stmt} {v : VS} {p : Pos} (hF : FmSt F sc) (hB : SndB G k v b sc) (h : tryV sc v hs ρ μ Q X) : WG G F k RF ρ μ (exec (.Try b hs [] [] p) F.env) Q X := by
  cases hs with
  | nil => exact h.elim
  | cons h₀ r =>
    have no : vTryNo v ρ μ Q X → WG G F k RF ρ μ (exec (.Try b (h₀ :: r) [] [] p) F.env) Q X := fun h => x_tryNo (hB F ρ μ Q _ hF h)
    cases r with
    | cons _ _ => exact no h
    | nil =>
      obtain ⟨t, name, suite, p0⟩ := h₀
      cases t with
      | none => exact no h
      | some e =>
        revert h
        show (match isStr "ValueError" e && globalIn sc "ValueError" with | true => suiteV sc v name suite | false => vTryNo v) ρ μ Q X → _
        cases hc : isStr "ValueError" e && globalIn sc "ValueError" with
        | false => exact no
        | true =>
          rw [Bool.and_eq_true] at hc
          obtain ⟨p1, rfl⟩ := isStrE hc.1
          have hkv := globE hF hc.2
          cases suite with
          | nil => exact no
          | cons st r => cases r with
            | cons _ _ => exact no
            | nil => cases name with
              | none =>
                show (match retNone st with | true => vTryNone v | false => vTryNo v) ρ μ Q X → _
                cases hr : retNone st with
                | false => exact no
                | true =>
                  intro h
                  obtain ⟨_, _, _, rfl⟩ := retNoneE hr
                  exact x_tryNone hF.fn hkv (hB F ρ μ Q _ hF h)
              | some x =>
                show (match setName st with | some ye => whenV (sc.lookup x == some NameKind.local && sc.lookup ye.1 == some NameKind.local && !(x == ("__debug__" : Str)) && globalIn sc "str") (match callArg "str" sc ye.2 with | some e => whenV (isStr x e) (match place x (varsOf sc) with | some i => (match place ye.1 (varsOf sc) with | some j => vTryStr v i j | none => vBad) | none => vBad) | none => vBad) | none => vBad) ρ μ Q X → _
                cases hst : setName st with
                | none => exact fun h => h.elim
                | some ye =>
                  intro h
                  obtain ⟨p2, p3, rfl⟩ := setNameE hst
                  obtain ⟨hc, h2⟩ := whenVE h
                  rw [Bool.and_eq_true, Bool.and_eq_true, Bool.and_eq_true] at hc
                  clear h
                  revert h2
                  cases hca : callArg "str" sc ye.2 with
                  | none => exact fun h => h.elim
                  | some e2 =>
                    intro h3
                    obtain ⟨p4, p5, he, g3, _⟩ := callArgE hca
                    obtain ⟨h1, h4⟩ := whenVE h3
                    clear h3
                    obtain ⟨p6, e6⟩ := isStrE h1
                    subst e6
                    revert h4
                    cases hi : place x (varsOf sc) with
                    | none => exact fun h => h.elim
                    | some i => cases hj : place ye.1 (varsOf sc) with
                      | none => exact fun h => h.elim
                      | some j =>
                        intro h5
                        rw [he]
                        exact x_tryStr hF.fn hkv (globE hF g3) (hF.msc.at hi) ((hF.kind x).trans (eq_of_beq hc.1.1.1)) (not_of hc.1.2) (hF.msc.at hj) ((hF.kind _).trans (eq_of_beq hc.1.1.2)) (hB F ρ μ Q _ hF h5)
end
section
variable {G : GG} {F : Fm} {k n : Nat} {ρ : Rho} {μ : Mu} {W : Wd} {s : Shared} {A : Around} {Q : FQ} {X : MX} {sc : Sc}
structure OddE (G : GG) (k : Nat) : Prop where
  r : RdOk G k
  t : ∀ (rec : Sc → Nat → Expr → PE), (∀ sc m e, SndE G k (rec sc m e) e sc) → ∀ (F : Fm) sc es ρ μ Q X p p', FmSc F sc → globalIn sc "tuple" = true → vcE G k (mapPE rec sc es) ρ μ Q X → WG G F k RV ρ μ (eval (.Call (.Name "tuple" p') es [] p) F.env) (Un ρ Q) (Un ρ X)
theorem trE_snd (O : OddE G k) : ∀ n, (∀ sc m e, SndE G k (trE n sc m e) e sc) ∧ ∀ sc m e, SndC G k (trE n sc m e) e sc
  | 0 => ⟨fun sc m e F ρ μ Q X zz h => h.elim, fun sc m e F ρ μ Q X zz h => h.elim⟩
  | n + 1 => by
    obtain ⟨h1, h2⟩ := trE_snd O n
    have h3 := stepE_snd O.r h1 h2 (O.t _ h1)
    exact ⟨h3, stepC_snd h1 h2 h3⟩
variable {hm hz : List (Nat × Nat)}
theorem stepS_snd (OE : OddE G k) (O : Odd G k) {rec : Stmt → VS} (HS : ∀ st, SndS G k (rec st) st sc) (st : Stmt) : SndS G k (stepS G k n sc hm hz rec st) st sc := fun F ρ μ Q X hF h => by
  obtain ⟨H0, HC0⟩ := trE_snd OE n
  obtain ⟨H, HC⟩ := trE_snd OE (n + 1)
  have HB := snd_trB HS
  cases st with
  | Assign ts v p => exact snd_asg H H0 HC0 O.toOneOk hF h
  | AugAssign t op v p => exact snd_aug H hF h
  | If c b o p => exact x_if (seqU (ofC HC hF h) fun t μ' q => ⟨fun e => HB b F ρ μ' Q X hF (q.1 e), fun e => HB o F ρ μ' Q X hF (q.2 e)⟩)
  | While c b o p =>
    obtain ⟨ho, h2⟩ := whenVE h
    have ho := List.isEmpty_iff.mp ho
    subst ho
    obtain ⟨I, m, hI, ht⟩ := h2
    exact x_while hF.fn (fun m ρ₁ μ₁ hI => seqU (ofC HC hF (ht m ρ₁ μ₁ hI)) fun t μ₂ q => ⟨fun e => HB b F ρ₁ μ₂ _ X hF (q.1 e), q.2⟩) m hI
  | For t it b o p =>
    obtain ⟨ho, h2⟩ := whenVE h
    rw [Bool.and_eq_true, List.isEmpty_iff] at ho
    obtain ⟨ho, hs⟩ := ho
    subst ho
    exact frzVE hF h2 fun ρ μ h => snd_for H O hF (HB b) (not_of hs) h
  | Return v p =>
    refine frzVE hF h fun ρ μ h => ?_
    cases v with
    | none => exact h.elim
    | some e => exact x_ret (ofE H hF h)
  | Expr e p =>
    obtain ⟨hc, h2⟩ := whenVE h
    exact x_expr (not_of hc) (ofE H hF h2)
  | Break p => exact x_brk h
  | Continue p => exact x_cont h
  | Raise e c p =>
    obtain ⟨hc, h2⟩ := whenVE h
    exact snd_raise H hF hc h2
  | Assert c m p => exact x_assert (seqU (ofC HC hF h) fun t μ' q => q)
  | Try b hs o f p =>
    obtain ⟨ho, h2⟩ := whenVE h
    rw [Bool.and_eq_true, List.isEmpty_iff, List.isEmpty_iff] at ho
    obtain ⟨e1, e2⟩ := ho
    subst e1; subst e2
    exact snd_try hF (HB b) h2
  | _ => exact h.elim
theorem trS_snd (OE : OddE G k) (O : Odd G k) : ∀ d st, SndS G k (trS G k n sc hm hz d st) st sc
  | 0, st, F, ρ, μ, Q, X, hF, h => h.elim
  | d + 1, st, F, ρ, μ, Q, X, hF, h => stepS_snd OE O (trS_snd OE O d) st F ρ μ Q X hF h
end
section
variable {G : GG} {k n : Nat} {ρ : Rho} {μ : Mu} {W : Wd} {s : Shared} {A : Around}
noncomputable def fnOk (scope : Scope) (pn : List Str) : Bool :=
  scope.kind == .function && !scope.isCoroutine && !scope.isGenerator && scope.names.all (fun y => (y.2 == .globalImplicit || (y.2 == .local || y.2 == .cell) && scope.names.lookup y.1 == some y.2)) && pn.all (fun x => scope.names.lookup x == some .local || scope.names.lookup x == some .cell) && decide (varsOf scope.names).Nodup && decide pn.Nodup
structure FnSc (scope : Scope) (pn : List Str) : Prop where
  kind : scope.kind = .function
  co : scope.isCoroutine = false
  gen : scope.isGenerator = false
  var : ∀ x ∈ varsOf scope.names, scope.names.lookup x = some .local ∨ scope.names.lookup x = some .cell
  par : ∀ x ∈ pn, scope.names.lookup x = some .local ∨ scope.names.lookup x = some .cell
  nd : (varsOf scope.names).Nodup
  pnd : pn.Nodup
theorem fnOkE {scope : Scope} {pn : List Str} (h : fnOk scope pn = true) : FnSc scope pn := by
  unfold fnOk at h
  rw [Bool.and_eq_true, Bool.and_eq_true, Bool.and_eq_true, Bool.and_eq_true, Bool.and_eq_true, Bool.and_eq_true, List.all_eq_true, List.all_eq_true, decide_eq_true_eq, decide_eq_true_eq, Bool.not_eq_true', Bool.not_eq_true'] at h
  obtain ⟨⟨⟨⟨⟨⟨h1, h2⟩, h3⟩, h4⟩, h5⟩, h6⟩, h7⟩ := h
  refine ⟨eq_of_beq h1, h2, h3, fun x hx => ?_, fun x hx => ?_, h6, h7⟩
  · obtain ⟨y, hy, e⟩ := List.mem_map.mp hx
    obtain ⟨hy, hk⟩ := List.mem_filter.mp hy
    have := h4 y hy
    subst e
    rw [Bool.or_eq_true, Bool.and_eq_true, Bool.or_eq_true] at this
    rcases this with q | ⟨q | q, e⟩
    · rw [eq_of_beq q] at hk; exact absurd hk (by decide)
    · rw [eq_of_beq q] at e; exact .inl (eq_of_beq e)
    · rw [eq_of_beq q] at e; exact .inr (eq_of_beq e)
  · have := h5 x hx
    rw [Bool.or_eq_true] at this
    exact this.imp eq_of_beq eq_of_beq
theorem mem_vars {names : List (Str × NameKind)} {x : Str} (h : (x, NameKind.cell) ∈ names) : x ∈ varsOf names := List.mem_map.mpr ⟨_, List.mem_filter.mpr ⟨h, rfl⟩, rfl⟩
theorem cells_names : ∀ (names : List (Str × NameKind)) (n : Nat) (acc : List (Str × Addr)) (x : Str) (c : Addr), (x, c) ∈ cellsFrom n names acc → (x, c) ∈ acc ∨ (x, NameKind.cell) ∈ names
  | [], _, _, _, _, h => .inl h
  | (y, kd) :: r, n, acc, x, c, h => by
    unfold cellsFrom at h
    by_cases q : (kd == .cell) = true
    · rw [if_pos q] at h
      rcases cells_names r _ _ x c h with h | h
      · rcases List.mem_cons.mp h with h | h
        · cases h; rw [eq_of_beq q]; exact .inr (List.mem_cons_self ..)
        · exact .inl h
      · exact .inr (List.mem_cons_of_mem _ h)
    · rw [if_neg q] at h
      exact (cells_names r _ _ x c h).imp id (List.mem_cons_of_mem _)
theorem cells_have : ∀ (names : List (Str × NameKind)) (n : Nat) (acc : List (Str × Addr)) (x : Str), ((x, NameKind.cell) ∈ names ∨ (acc.lookup x).isSome = true) → ((cellsFrom n names acc).lookup x).isSome = true
  | [], _, _, _, h => h.elim (fun h => nomatch h) id
  | (y, kd) :: r, n, acc, x, h => by
    unfold cellsFrom
    by_cases q : (kd == .cell) = true
    · rw [if_pos q]
      refine cells_have r _ _ x ?_
      rw [List.lookup_cons]
      rcases h with h | h
      · rcases List.mem_cons.mp h with h | h
        · cases h; rw [beq_self_eq_true]; exact .inr rfl
        · exact .inl h
      · cases x == y with
        | true => exact .inr rfl
        | false => exact .inr h
    · rw [if_neg q]
      refine cells_have r _ _ x (h.imp (fun h => ?_) id)
      rcases List.mem_cons.mp h with h | h
      · cases h; exact absurd rfl q
      · exact h
noncomputable def initRho (vars pn : List Str) (ds : List D) : Rho := vars.map fun x => (pn.zip ds).lookup x
theorem look_init : ∀ (vars pn : List Str) (ds : List D) (i : Nat) (x : Str), vars[i]? = some x → look (initRho vars pn ds) i = (pn.zip ds).lookup x
  | y :: r, pn, ds, 0, x, h => by cases h; rfl
  | y :: r, pn, ds, i + 1, x, h => look_init r pn ds i x h
theorem bindL_at (kd : Str → Option NameKind) (y : Str) (hy : kd y = some .local) : ∀ (l : List (Str × Value)) (m : Str → Option Value), (l.map (·.1)).Nodup → bindL kd l m y = ((l.lookup y).or (m y))
  | [], m, _ => rfl
  | (x, v) :: r, m, h => by
    obtain ⟨h1, h2⟩ := List.nodup_cons.mp h
    unfold bindL
    rw [bindL_at kd y hy r _ h2, List.lookup_cons]
    by_cases q : y = x
    · subst q
      rw [if_pos hy, beq_self_eq_true, if_pos rfl]
      have : r.lookup y = none := by
        cases e : r.lookup y with
        | none => rfl
        | some z => exact absurd (List.mem_map.mpr ⟨_, PySem.mem_of_lookup e, rfl⟩) h1
      rw [this]; rfl
    · have : (y == x) = false := beq_eq_false_iff_ne.mpr q
      rw [this]
      split
      · show (r.lookup y).or (if y = x then some v else m y) = _; rw [if_neg q]
      · rfl
theorem bindC_at (kd : Str → Option NameKind) (y : Str) (hy : kd y ≠ some .local) : ∀ (l : List (Str × Value)) (m : Str → Option Value), (l.map (·.1)).Nodup → bindC kd l m y = ((l.lookup y).or (m y))
  | [], m, _ => rfl
  | (x, v) :: r, m, h => by
    obtain ⟨h1, h2⟩ := List.nodup_cons.mp h
    unfold bindC
    rw [bindC_at kd y hy r _ h2, List.lookup_cons]
    by_cases q : y = x
    · subst q
      rw [if_neg hy, beq_self_eq_true, if_pos rfl]
      have : r.lookup y = none := by
        cases e : r.lookup y with
        | none => rfl
        | some z => exact absurd (List.mem_map.mpr ⟨_, PySem.mem_of_lookup e, rfl⟩) h1
      rw [this]; rfl
    · have : (y == x) = false := beq_eq_false_iff_ne.mpr q
      rw [this]
      split
      · rfl
      · show (r.lookup y).or (if y = x then some v else m y) = _; rw [if_neg q]
theorem lookup_zip {π : List Addr} {φ : PMap} {y : Str} {d : D} : ∀ {pn : List Str} {vs : List Value} {ds : List D}, Vs π φ vs ds → (pn.zip ds).lookup y = some d → ∃ v, (pn.zip vs).lookup y = some v ∧ V π φ v d
  | [], _, _, _, h => nosome h
  | x :: r, _, _, .nil, h => nosome h
  | x :: r, _, _, .cons hv hr, h => by
    rw [List.zip_cons_cons, List.lookup_cons] at h ⊢
    cases q : (y == x) with
    | true => rw [q] at h; cases h; exact ⟨_, rfl, hv⟩
    | false => rw [q] at h; exact lookup_zip hr h
end
section
variable {G : GG} {k n : Nat} {ρ : Rho} {μ : Mu} {W : Wd} {s : Shared} {A : Around}
noncomputable def endQ (Q : D → Mu → Prop) : FQ
  | .ret d => fun zz μ => Q d μ
  | .next => fun zz μ => Q .none μ
  | _ => fun zz zz => False
theorem FrOk.none {L : Option Addr} {e : Env} (h : FrOk W none e) : FrOk W L e := by
  obtain ⟨h1, a, h2, h3⟩ := h
  exact ⟨h1, a, h2, h3.elim (fun q => nomatch q) .inr⟩
noncomputable def fnFm (env : Env) (outer : List Env) : Fm := { env := env, vars := varsOf env.scope.names, own := (varsOf env.scope.names).filterMap fun x => env.cells.lookup x, isFn := true, outer := outer }
theorem fn_rel {scope : Scope} {pn : List Str} {env : Env} {outer : List Env} {vs : List Value} {ds : List D} {s₁ : Shared} (fs : FnSc scope pn) (w : WRel G W μ s) (hv : Vs W.π W.φ vs ds) (hlen : vs.length = pn.length) (he : env.scope = scope) (hL : env.locals = s.heap.objs.size) (hg : env.globals = mainGlobals) (hb : env.builtins = builtinsNs) (hf : env.frame = some env.locals)
    (hc : env.cells = cellsFrom (s.heap.objs.size + 1) scope.names []) (x : InCallC s env.locals (bindL env.kindOf (pn.zip vs) fun zz => none) env.cells (bindC env.kindOf (pn.zip vs) fun zz => none) s₁) :
    Rel G (fnFm env outer) W (initRho (varsOf scope.names) pn ds) μ s₁ := by
  subst he
  have hk : ∀ y, env.kindOf y = env.scope.names.lookup y := fun zz => rfl
  have hzn : ((pn.zip vs).map (·.1)).Nodup := by
    rw [List.map_fst_zip (by exact Nat.le_of_eq (Eq.symm ‹_›))]; exact fs.pnd
  have hnone : ∀ (o : Option Value), o.or ((fun zz => none : Str → Option Value) "") = o := fun o => by cases o <;> rfl
  have new : ∀ c, s.heap.objs.size ≤ c → W.ψ c = none ∧ W.φ c = none ∧ W.fs c = none ∧ c ∉ W.π := fun c hc => by
    have hn : s.heap.get? c = none := Heap.get?_none_of_le hc
    exact ⟨none_of_keep w.ψ hn, none_of_keep w.φ hn, w.fsNone hn, w.notMut hn⟩
  have own : ∀ a ∈ (fnFm env outer).own, ∃ y, env.cells.lookup y = some a := fun a ha => by
    obtain ⟨y, _, e⟩ := List.mem_filterMap.mp ha
    exact ⟨y, e⟩
  have above : ∀ a ∈ (fnFm env outer).own, env.locals < a := fun a ha => (own a ha).elim fun y e => x.above y a (PySem.mem_of_lookup e)
  have inown : ∀ y c, env.cells.lookup y = some c → c ∈ (fnFm env outer).own := fun y c e => by
    have hm := PySem.mem_of_lookup e
    rw [hc] at hm
    rcases cells_names _ _ _ _ _ hm with q | q
    · cases q
    · exact List.mem_filterMap.mpr ⟨y, mem_vars q, e⟩
  obtain ⟨h', tk, e1, kp⟩ := x.done
  have wr : WRel G W μ s₁ := by rw [e1]; exact w.keeps kp
  refine ⟨wr, ⟨fs.kind, hg, hb, fs.nd, fun zz y c zz e => inown y c e, fun zz => hf⟩, ⟨_, x.toInCall.ns, fun i y hy => ?_⟩, fun a ha => ?_, ?_, fun y c e => .inl (inown y c e), fun y z c e1 e2 => name_of_addr x.apart (PySem.mem_of_lookup e1) (PySem.mem_of_lookup e2), fun a ha => ?_⟩
  · have hy' : (varsOf env.scope.names)[i]? = some y := hy
    rw [look_init _ _ _ _ _ hy']
    have hval : ∀ d, (pn.zip ds).lookup y = some d → ∃ v, (pn.zip vs).lookup y = some v ∧ V W.π W.φ v d := fun d e => lookup_zip hv e
    rcases fs.var y (List.mem_of_getElem? hy') with hl | hl
    · refine .inl ⟨hl, fun d e => ?_⟩
      obtain ⟨v, e2, h2⟩ := hval d e
      exact ⟨v, by rw [bindL_at _ y hl _ _ hzn, e2]; rfl, h2⟩
    · have hm : (env.cells.lookup y).isSome = true := by
        rw [hc]
        exact cells_have _ _ _ _ (.inl (PySem.mem_of_lookup hl))
      obtain ⟨c, hcc⟩ := Option.isSome_iff_exists.mp hm
      refine .inr ⟨.inl hl, c, _, hcc, x.cell y c hcc, fun d e => ?_⟩
      obtain ⟨v, e2, h2⟩ := hval d e
      exact ⟨v, by rw [bindC_at _ y (by rw [hk, hl]; decide) _ _ hzn, e2]; rfl, h2⟩
  · rcases List.mem_cons.mp ha with e | h
    · have e : a = env.locals := e
      subst e; exact new _ (by rw [hL]; exact Nat.le_refl _)
    · exact new _ (Nat.le_of_lt (hL ▸ above a h))
  · refine List.nodup_cons.mpr ⟨fun h => Nat.lt_irrefl _ (above _ h), ?_⟩
    refine List.Pairwise.filterMap _ (fun y z hyz c hc1 c' hc2 e => ?_) fs.nd
    subst e
    exact hyz (name_of_addr x.apart (PySem.mem_of_lookup hc1) (PySem.mem_of_lookup hc2))
  · obtain ⟨y, e⟩ := own a ha
    obtain ⟨o, ho, _⟩ := x.cell y a e
    exact ⟨o, ho⟩
theorem fn_aok {F : Fm} (ca : CA W (k + 1) A) (hl : A.frames = some F.outer) (hk : F.env.scope.kind = .function) (hf : F.env.frame = some F.env.locals) : AOk F W k (A.deeper F.env) where
  handled := ca.handled
  depth := by have := ca.depth; show A.depth + 1 + k ≤ 900; exact ar147 this
  units := by have := ca.units; show A.units + 3 + 8 * k ≤ 9000; exact ar148 this
  frames := by
    obtain ⟨l', e, h⟩ := ca.frames
    rw [hl] at e; cases e
    refine ⟨F.env :: F.outer, by show A.frames.map _ = _; rw [hl]; rfl, fun zz => rfl, fun x hx => ?_⟩
    rcases List.mem_cons.mp hx with e | hx
    · subst e; exact ⟨by rw [hk]; decide, _, hf, .inl rfl⟩
    · exact (h x hx).none
theorem fn_st {env : Env} {l : List Env} : FmSt (fnFm env l) env.scope.names :=
  ⟨⟨rfl, fun x h => eq_of_beq h, fun x h => h⟩, rfl, fun zz => rfl⟩
theorem fn_leave {F : Fm} {X : List Nat → Mu → Prop} {x : Value} (a : AOk F W k A) (hF : F.isFn = true) (p : PX G F W (fun m zz => X m) x s) : wpAny G.M A (leaving F.env x) (fun zz s' => CErr G W X x s') (fun e s' => CErr G W X e s') s := by
  cases p with
  | mk W1 e msg ρ1 μ1 le r hx ex q =>
  subst hx
  refine wpAny_bind (wpAny_mono (note_ r (a.up le) hF ex) (fun zz s1 n => ?_) fun zz zz h => h)
  cases n with
  | mk r1 x1 =>
  refine wpAny_mono (flight_ r1 x1 none) (fun zz s2 n => ?_) fun zz zz h => h
  cases n with
  | mk r2 x2 => exact ⟨W1, e, msg, μ1, le, r2.wr, rfl, x2.mono (fun zz h => ⟨h.1, h.2.1, h.2.2.1, h.2.2.2.1⟩) true (fun h => h), q⟩
noncomputable def flV : Flow → Value
  | .ret v => v
  | _ => .none
inductive BQ (G : GG) (W : Wd) (μ : Mu) (pn : List Str) (ds : List D) (binds : List (Str × Value)) (s' : Shared) : Prop
  | mk (W' : Wd) (vs : List Value) (le : W.le W') (w : WRel G W' μ s') (hv : Vs W'.π W'.φ vs ds) (hb : binds = pn.zip vs)
noncomputable def BindOk (G : GG) (nm : Str) (params : Arguments) (body : List Stmt) (scope : Scope) (pn : List Str) (ds ds' : List D) (μ : Mu) : Prop :=
  ∀ (W : Wd) (A : Around) (s : Shared) (vs : List Value) (pm code doc : Value) (E : Value → Shared → Prop), WRel G W μ s → Vs W.π W.φ vs ds → wpAny G.M A (bindArgs (docDef nm params body scope pm code doc) ⟨vs, []⟩) (fun binds s' => BQ G W μ pn ds' binds s') E s
theorem bind_pure {nm : Str} {params : Arguments} {body : List Stmt} {scope : Scope} {pn : List Str} {ds : List D} (h : ∀ pm code doc (vs : List Value), vs.length = ds.length → bindArgs (docDef nm params body scope pm code doc) ⟨vs, []⟩ = pure (pn.zip vs)) : BindOk G nm params body scope pn ds ds μ := fun W A s vs pm code doc E w hv => by
  rw [h pm code doc vs hv.length]
  exact wpAny_pure ⟨W, vs, .refl W, w, hv, rfl⟩
theorem CA.up {W' : Wd} (ca : CA W k A) (h : W.le W') : CA W' k A :=
  ⟨ca.handled, ca.depth, ca.units, by
    obtain ⟨l, e, hl⟩ := ca.frames
    refine ⟨l, e, fun x hx => ?_⟩
    obtain ⟨q1, a, q2, q3⟩ := hl x hx
    refine ⟨q1, a, q2, q3.imp id fun q => ?_⟩
    obtain ⟨⟨o, y, n⟩, u, v⟩ := q
    exact ⟨⟨o, by rw [h.fs]; exact y, n⟩, by rw [h.ψ]; exact u, h.fresh _ (.inr (some_ne y)) v⟩⟩
theorem CPost.up {W' : Wd} {Q : D → Mu → Prop} {X : List Nat → Mu → Prop} {r : Result} (le : W.le W') (p : CPost G W' Q X r s) : CPost G W Q X r s := by
  cases r with
  | ok fl => cases fl with
    | ret v => cases p with | mk W2 d μ2 le2 w hv q => exact ⟨W2, d, μ2, le.trans le2, w, hv, q⟩
    | _ => exact p
  | error x => cases p with | mk W2 e msg μ2 le2 w hx ex q => exact ⟨W2, e, msg, μ2, le.trans le2, w, hx, ex, q⟩
theorem fn_raw {f : Fn} {nm : Str} {params : Arguments} {body : List Stmt} {scope : Scope} (pn : List Str) (hn : (nm, f) ∈ fnNames) (hd : PySem.Challenge.pw_ik0060_01.theDef nm = some (params, body, scope)) (hok : fnOk scope pn = true)
    {ds ds' : List D} (hlen : ds'.length = pn.length) (hbind : BindOk G nm params body scope pn ds ds' μ) {Q : D → Mu → Prop} {X : List Nat → Mu → Prop}
    (h : ∀ W A s env l, AOk (fnFm env l) W k A → Rel G (fnFm env l) W (initRho (varsOf scope.names) pn ds') μ s → env.scope = scope → env.qual = nm ++ ".<locals>." → env.cells = cellsFrom (env.locals + 1) scope.names [] → (∃ o pm doc, G.H.get? (G.fa f) = some o ∧ o.data = .func (docDef nm params body scope pm env.code doc)) →
      wpAny G.M A (execs body env) (fun fl s' => CPost G W Q X (.ok (.ret (flV fl))) s') (PX G (fnFm env l) W fun m zz => X m) s) : FnSpec G (k + 1) f ds μ Q X := fun W A s vs ca w hv => by
  obtain ⟨_, o, pm, code, doc, params', body', scope', ho, hdat, hcr, hdef⟩ := w.gok.fn nm f hn
  rw [hd] at hdef
  cases hdef
  have fs := fnOkE hok
  have kp : ∀ b o, G.H.get? b = some o → s.heap.get? b = some o := fun b o e => w.ψ _ _ (w.ground _ _ e)
  refine codeAny_call_function (body := body) (by have := ca.depth; unfold recursionLimit; exact ar149 this) (kp _ _ ho) hdat fs.co fs.gen rfl (hcr.keeps kp) (wpAny_mono (hbind W A.in1 s vs pm code doc _ w hv) (fun binds s0 q => ?_) fun zz zz h => h)
  cases q with
  | mk W0 vs0 le0 w0 hv0 hb =>
  subst hb
  have ca0 := ca.up le0
  obtain ⟨l, hl, _⟩ := ca0.frames
  have kp0 : ∀ b o, G.H.get? b = some o → s0.heap.get? b = some o := fun b o e => w0.ψ _ _ (w0.ground _ _ e)
  refine wpAny_newFunctionEnv_cells fs.kind (fun y hy => ?_) fun env he s₁ x => ⟨(w0.gok.lim.keeps kp0).keeps x.toInCall.keep, codeAny_func ?_⟩
  · have hy1 : y.1 ∈ pn := by
      have := List.mem_map_of_mem (f := Prod.fst) hy
      rw [List.map_fst_zip (by rw [hv0.length, hlen]; exact Nat.le_refl _)] at this
      exact this
    exact (fs.par y.1 hy1).imp id fun q => ⟨q, cells_have _ _ _ _ (.inl (PySem.mem_of_lookup q))⟩
  · have e1 : env.scope = scope := by rw [he]; rfl
    have hf : env.frame = some env.locals := by rw [he]; rfl
    have r : Rel G (fnFm env l) W0 (initRho (varsOf scope.names) pn ds') μ s₁ := fn_rel fs w0 hv0 (hv0.length.trans hlen) e1 (by rw [he]; rfl) (by rw [he]; rfl) (by rw [he]; rfl) hf (by rw [he]; rfl) x
    have a := fn_aok (F := fnFm env l) ca0 hl (by show env.scope.kind = _; rw [e1]; exact fs.kind) hf
    exact wpAny_mono (h W0 (A.deeper env) s₁ env l a r e1 (by rw [he]; rfl) (by rw [he]; rfl) ⟨o, pm, doc, ho, by rw [hdat, he]; rfl⟩) (fun fl s2 p => by cases fl <;> exact CPost.up le0 p) fun e s2 p => wpAny_mono (fn_leave a rfl p) (fun zz s3 q => CPost.up (r := .error e) le0 q) fun e' s3 q => CPost.up (r := .error e') le0 q
theorem fn_end {F : Fm} {Q : D → Mu → Prop} {X : List Nat → Mu → Prop} {fl : Flow} (p : PQ G F W RF (endQ Q) fl s) : CPost G W Q X (.ok (.ret (flV fl))) s := by
  cases p with
  | mk W2 b ρ2 μ2 le r2 hb q =>
    cases hb with
    | next => exact ⟨W2, .none, μ2, le, r2.wr, .none, q⟩
    | brk => exact q.elim
    | cont => exact q.elim
    | ret hv => exact ⟨W2, _, μ2, le, r2.wr, hv, q⟩
theorem fn_go (OE : OddE G k) (O : Odd G k) {f : Fn} {nm : Str} {params : Arguments} {body : List Stmt} {scope : Scope} {hm hz : List (Nat × Nat)} {d m : Nat} (pn : List Str) (hn : (nm, f) ∈ fnNames) (hd : PySem.Challenge.pw_ik0060_01.theDef nm = some (params, body, scope)) (hok : fnOk scope pn = true)
    {ds ds' : List D} (hlen : ds'.length = pn.length) (hbind : BindOk G nm params body scope pn ds ds' μ) {Q : D → Mu → Prop} {X : List Nat → Mu → Prop}
    (h : trB (trS G k m scope.names hm hz d) body (initRho (varsOf scope.names) pn ds') μ (endQ Q) fun m zz => X m) : FnSpec G (k + 1) f ds μ Q X :=
  fn_raw pn hn hd hok hlen hbind fun W A s env l a r e1 zz zz zz => wpAny_mono (snd_trB (trS_snd OE O d) body (fnFm env l) _ μ _ _ (by rw [← e1]; exact fn_st) h W A s a r) (fun zz zz p => fn_end p) fun zz zz p => p
end
noncomputable def defOf (nm : Str) : Arguments × List Stmt × Scope := (PySem.Challenge.pw_ik0060_01.theDef nm).getD default
noncomputable abbrev bodyOf (nm : Str) : List Stmt := (defOf nm).2.1
noncomputable abbrev scOf (nm : Str) : Sc := (defOf nm).2.2.names
noncomputable abbrev trD (G : GG) (k : Nat) (nm : Str) (hm hz : List (Nat × Nat)) : VS := trB (trS G k 12 (scOf nm) hm hz 12) (bodyOf nm)
section
open PySem.Builtin PySem.Builtin.ObjectAttr
variable {G : GG} {A : Around} {s : Shared}
theorem fl_ga : typeLookup (.type "function") "__getattribute__" = pure (some (.builtin "object.__getattribute__")) := by rw [typeLookup_type, builtinLookup_eq_fast]; kernel_rfl
theorem fl_gattr : typeLookup (.type "function") "__getattr__" = pure none := by rw [typeLookup_type, builtinLookup_eq_fast]; kernel_rfl
theorem fl_read : typeLookup (.type "function") "read" = pure none := by rw [typeLookup_type, builtinLookup_eq_fast]; kernel_rfl
theorem slot_fga : Slot "function" "__getattribute__" "object.__getattribute__" :=
  .of (owner := "object") (n := "__getattribute__") fl_ga (by decide +kernel) (by decide +kernel) (by decide +kernel)
    (by first | exact .inl (by decide +kernel) | exact .inr (by decide +kernel)) (by rw [isSubtype_type]; kernel_rfl)
theorem entry_fga : entryFor table "object.__getattribute__" = some Builtin.«object.__getattribute__» := entryFor_of_tree (by kernel_rfl)
theorem canon_ga : (Manifest.canonical "object.__getattribute__" != "object.__getattribute__") = false := by decide +kernel
theorem ty_fga : typeOf (.builtin "object.__getattribute__") = pure (.type "wrapper_descriptor") := by show builtinType _ = _; rw [builtinType_eq_fast]; kernel_rfl
theorem get_read {a d r : Addr} {o : Obj} {m : Str → Option Value} {pl : Sem Bool} {Q : Value × List Value → Shared → Prop} {E : Value → Shared → Prop} (ho : s.heap.get? a = some o) (hc : o.cls = .type "function") {fd : FuncData} (hdt : o.data = .func fd) (hd : o.dict = some d) (hn : s.heap.Ns d m) (hr : m "read" = some (.ref r))
    (h : Q (.ref r, []) { s with toks := s.toks + 1 }) : wpAny G.M A (getMethod (.ref a) "read" pl) Q E s := by
  have hT : s.TypeIs (.ref a) "function" := ⟨o, ho, hc⟩
  unfold getMethod
  refine wpAny_bind (wpAny_specialOf hT fl_ga ?_)
  show wpAny _ A (if (Manifest.canonical "object.__getattribute__" != "object.__getattribute__") = true then _ else _) Q E s
  rw [canon_ga, if_neg Bool.false_ne_true]
  refine wpAny_bind (wpAny_specialOf hT fl_gattr ?_)
  refine wpAny_bind (wpAny_specialOf hT fl_read ?_)
  show wpAny _ A (do let v ← getAttr (.ref a) "read"; pure (v, [])) Q E s
  unfold getAttr
  refine wpAny_bind (wpAny_bind (wpAny_mkText ?_))
  unfold getAttrBy
  refine wpAny_holding ?_
  have hT' : ({ s with toks := s.toks + 1 } : Shared).TypeIs (.ref a) "function" := ⟨o, ho, hc⟩
  refine wpAny_bind (wpAny_typeOf hT' ?_)
  refine wpAny_bind (wpAny_of_eq fl_ga ?_)
  show wpAny _ A (getAttrByItsOwn (.ref a) _ (.type "function") (.builtin "object.__getattribute__") true false) _ E _
  unfold getAttrByItsOwn
  refine wpAny_bind (wpAny_of_eq (a := none) rfl ?_)
  refine wpAny_bind (wpAny_attempt (wpAny_holding ?_))
  show wpAny _ A (boundAndCalled (.builtin "object.__getattribute__") (.ref a) _) _ _ _
  unfold boundAndCalled
  refine wpAny_bind ?_
  unfold bindSpecial
  refine wpAny_bind (wpAny_of_eq ty_fga ?_)
  rw [if_pos (by decide)]
  refine wpAny_pure ?_
  refine wpAny_call_entry slot_fga hT' entry_fga ?_ (PySem.F.args_object_getattribute_2 _ _)
  unfold Builtin.«object.__getattribute__»
  refine wpAny_bind (wpAny_of_eq (a := (.ref a, [.str "read" s.toks])) rfl ?_)
  refine wpAny_bind (wpAny_of_eq (a := ("read" : Str)) rfl ?_)
  refine wpAny_bind (wpAny_typeOf hT' ?_)
  refine wpAny_bind ?_
  unfold find
  refine wpAny_bind (wpAny_of_eq fl_read ?_)
  refine wpAny_bind (wpAny_of_eq (a := none) rfl ?_)
  refine wpAny_bind (wpAny_of_eq (a := none) rfl ?_)
  show wpAny _ _ (ownThenClass (.ref a) "read" none none) _ _ _
  unfold ownThenClass
  refine wpAny_bind ?_
  show wpAny _ _ (do inDict "read" (← ownDict a)) _ _ _
  refine wpAny_bind ?_
  unfold ObjectAttr.ownDict
  refine wpAny_bind (m := loadHead a) (wpAny_loadPart ho ?_)
  rw [hdt]
  show wpAny _ _ (instanceDict a false) _ _ _
  unfold instanceDict
  refine wpAny_bind (wpAny_loadPart ho ?_)
  rw [hc, hd]
  refine wpAny_pure (wpAny_nsGet hn ?_)
  rw [hr]
  exact wpAny_bind (wpAny_rule (wpAny_pure (wpAny_pure ⟨_, rfl, wpAny_pure (wpAny_pure h)⟩)))
end
section
open Classical
variable {G : GG} {k n : Nat} {ρ : Rho} {μ : Mu} {W : Wd} {s : Shared} {A : Around}
noncomputable abbrev readSc : Sc := readDef.2.2.1.names
theorem t_read (k : Nat) : trB (trS G k 12 readSc [] [] 12) readDef.2.1 = vSeq (vSet G k 1 (.idx (.loc 3) (.int 0)))
    (vSeq (vSetI G k (.loc 3) (.int 0) (.bi .min [.bi .len [.loc 2], .bin .add (.loc 1) (.loc 0)]))
    (vSeq (vRet G k (.sbet (.loc 2) (.loc 1) (.idx (.loc 3) (.int 0)))) vSkip)) := by kernel_rfl
noncomputable def rdW (W : Wd) (h : Heap) (c1 c2 : Addr) : Wd := { W with ψ := fun a => if a = c1 ∨ a = c2 then h.get? a else W.ψ a }
theorem rd_of {h : Heap} {c1 c2 a : Addr} (q : a = c1 ∨ a = c2) : (rdW W h c1 c2).ψ a = h.get? a := if_pos q
theorem rd_not {h : Heap} {c1 c2 a : Addr} (q : ¬ (a = c1 ∨ a = c2)) : (rdW W h c1 c2).ψ a = W.ψ a := if_neg q
theorem rd_keep (w : WRel G W μ s) {c1 c2 a : Addr} {o : Obj} (e : W.ψ a = some o) : (rdW W s.heap c1 c2).ψ a = some o := by
  by_cases q : a = c1 ∨ a = c2
  · rw [rd_of q]; exact w.ψ a o e
  · rw [rd_not q]; exact e
theorem WRel.cellApart (w : WRel G W μ s) {c : Addr} {o : Obj} {v : Option Value} (h : W.φ c = some o) (hd : o.data = .cell v) : c ∉ W.π := fun hm => by
  obtain ⟨i, hi⟩ := List.getElem?_of_mem hm
  have hlt : i < μ.length := by rw [← w.len]; exact (List.getElem?_eq_some_iff.mp hi).1
  cases e : μ[i] with
  | some ds => rw [w.live i c ds hi (by rw [List.getElem?_eq_getElem hlt, e])] at h; exact nosome h
  | none =>
    obtain ⟨vs, n, h2⟩ := w.done i c hi (by rw [List.getElem?_eq_getElem hlt, e])
    rw [h] at h2; cases h2; cases hd
theorem WRel.rd (w : WRel G W μ s) {c1 c2 : Addr} {o1 o2 : Obj} {v1 v2 : Option Value} (h1 : W.φ c1 = some o1) (d1 : o1.data = .cell v1) (h2 : W.φ c2 = some o2) (d2 : o2.data = .cell v2) : WRel G (rdW W s.heap c1 c2) μ s := by
  have hφ : ∀ a, (a = c1 ∨ a = c2) → W.φ a ≠ none := fun a q => by
    rcases q with rfl | rfl
    · exact some_ne h1
    · exact some_ne h2
  refine ⟨w.gok, fun a o e => rd_keep w (w.ground a o e), fun a o e => ?_, w.φ, w.fs, w.len, w.muts, w.nodup, fun a ha => ⟨?_, (w.apart a ha).2⟩, w.live, w.done, w.tab.move (fun zz e => e) ((rd_not fun q => hφ _ q w.tab.φ).trans w.tab.ψ) w.tab.φ rfl (.refl _), w.rest⟩
  · by_cases q : a = c1 ∨ a = c2
    · rw [rd_of q] at e; exact e
    · rw [rd_not q] at e; exact w.ψ a o e
  · refine (rd_not fun q => ?_).trans (w.apart a ha).1
    rcases q with rfl | rfl
    · exact w.cellApart h1 d1 ha
    · exact w.cellApart h2 d2 ha
theorem WRel.unrd (w : WRel G W μ s) {c1 c2 : Addr} {W₂ : Wd} {μ' : Mu} {s' : Shared} (le : (rdW W s.heap c1 c2).le W₂) (w2 : WRel G W₂ μ' s') : WRel G { W₂ with ψ := W.ψ } μ' s' ∧ W.le { W₂ with ψ := W.ψ } := by
  have up : ∀ a o, W.ψ a = some o → W₂.ψ a = some o := fun a o e => by rw [le.ψ]; exact rd_keep w e
  have dn : ∀ a, W₂.ψ a = none → W.ψ a = none := fun a e => by
    cases q : W.ψ a with
    | none => rfl
    | some o => rw [up a o q] at e; cases e
  refine ⟨⟨w2.gok, w.ground, fun a o e => w2.ψ a o (up a o e), w2.φ, w2.fs, w2.len, w2.muts, w2.nodup, fun a ha => ⟨dn a (w2.apart a ha).1, (w2.apart a ha).2⟩, w2.live, w2.done, w2.tab.move (fun zz e => e) w.tab.ψ w2.tab.φ rfl (.refl _), w2.rest⟩, rfl, le.fs, le.φ, le.π, le.base, fun a h e => le.fresh a (h.imp (fun q => ?_) id) e⟩
  cases q2 : W.ψ a with
  | none => exact absurd q2 q
  | some o => exact some_ne (rd_keep w q2)
theorem CA.rd (ca : CA W k A) {h : Heap} {c1 c2 : Addr} (h1 : W.φ c1 ≠ none) (h2 : W.φ c2 ≠ none) : CA (rdW W h c1 c2) k A :=
  ⟨ca.handled, ca.depth, ca.units, by
    obtain ⟨l, e, hl⟩ := ca.frames
    refine ⟨l, e, fun x hx => ?_⟩
    obtain ⟨q1, a, q2, q3⟩ := hl x hx
    refine ⟨q1, a, q2, q3.imp id fun q => ⟨q.1, (rd_not fun z => ?_).trans q.2.1, q.2.2⟩⟩
    rcases z with rfl | rfl
    · exact h1 q.2.2
    · exact h2 q.2.2⟩
noncomputable def clFm (env : Env) (outer : List Env) : Fm := { env := env, vars := varsOf env.scope.names, own := [], isFn := true, outer := outer }
theorem take_min {α : Type} (l : List α) (p n : Nat) : (l.drop p).take (min l.length (p + n) - p) = (l.drop p).take n := by
  rw [List.take_eq_take_iff, List.length_drop]
  exact ar150
end
section
open Classical
variable {G : GG} {F : Fm} {k n : Nat} {ρ : Rho} {μ : Mu} {W : Wd} {s : Shared} {A : Around}
theorem getMuI {i : Nat} {l : List D} {K : List D → Prop} (h : μ[i]? = some (some l)) (hk : K l) : getMu μ i K := by
  show (match μ[i]? with | some o => (match o with | some l => K l | none => False) | none => False)
  rw [h]; exact hk
theorem atDI {l : List D} {n : Int} {d : D} {K : D → Prop} (h0 : 0 ≤ n) (h : l[n.toNat]? = some d) (hk : K d) : atD l n K := by
  refine ⟨h0, ?_⟩
  rw [h]; exact hk
theorem bd_read {i p : Nat} {z : Int} {b : List UInt8} {Q : D → Mu → Prop} {X : List Nat → Mu → Prop} (hμ : μ[i]? = some (some [.int p])) (hp : p ≤ b.length) (hz : 0 ≤ z) (hQ : Q (.bytes ((b.drop p).take z.toNat)) (μ.set i (some [.int (min b.length (p + z.toNat) : Nat)]))) :
    trB (trS G k 12 readSc [] [] 12) readDef.2.1 [some (.int z), none, some (.bytes b), some (.mut i)] μ (endQ Q) (fun m zz => X m) := by
  rw [t_read]
  have hlt : i < μ.length := (List.getElem?_eq_some_iff.mp hμ).1
  have e : min (b.length : Int) ((p : Int) + z) = (min b.length (p + z.toNat) : Nat) := by exact ar151 hz
  refine getMuI hμ (atDI (by decide) rfl (getMuI hμ ⟨⟨by decide, show (0 : Int) < 1 by decide⟩, getMuI (List.getElem?_set_self hlt) (atDI (by decide) rfl ⟨⟨Int.natCast_nonneg p, ?_, ?_⟩, ?_⟩)⟩))
  · show (p : Int) ≤ min (b.length : Int) ((p : Int) + z); exact ar152 hp e
  · show min (b.length : Int) ((p : Int) + z) ≤ b.length; exact ar153
  · show Q (.bytes ((b.drop p).take (min (b.length : Int) ((p : Int) + z) - (p : Int)).toNat)) (μ.set i (some [.int (min (b.length : Int) ((p : Int) + z))]))
    rw [e, show (((min b.length (p + z.toNat) : Nat) : Int) - (p : Int)).toNat = min b.length (p + z.toNat) - p by exact ar154, take_min]
    exact hQ
theorem rd_vars : varsOf readSc = [("count" : Str), "begin", "octets", "spot"] := by kernel_rfl
theorem rd_facts : readDef.2.2.1.isCoroutine = false ∧ readDef.2.2.1.isGenerator = false ∧ readDef.2.2.1.kind = .function ∧ (∀ x ∈ readSc, x.2 ≠ .cell) ∧ readSc.lookup ("count" : Str) = some NameKind.local ∧ readSc.lookup ("begin" : Str) = some NameKind.local ∧ readSc.lookup ("octets" : Str) = some NameKind.free ∧ readSc.lookup ("spot" : Str) = some NameKind.free := by
  refine ⟨by kernel_rfl, by kernel_rfl, by kernel_rfl, ?_, by kernel_rfl, by kernel_rfl, by kernel_rfl, by kernel_rfl⟩
  have h : (readSc.all fun x => x.2 != .cell) = true := by kernel_rfl
  intro x hx e
  have := List.all_eq_true.mp h x hx
  rw [e] at this
  exact absurd this (by decide)
theorem read_rel {env : Env} {outer : List Env} {h' : Heap} {t : Nat} {i : Nat} {c1 c2 sa : Addr} {o1 o2 : Obj} {arr : Array UInt8} {tb : Tok} {v : Value} {z : Int} (w : WRel G W μ s) (h1 : W.φ c1 = some o1) (d1 : o1.data = .cell (some (.bytes arr tb))) (h2 : W.φ c2 = some o2) (d2 : o2.data = .cell (some (.ref sa)))
    (hz : arr.size ≤ big) (hπ : W.π[i]? = some sa) (hv : V W.π W.φ v (.int z)) (hsc : env.scope = readDef.2.2.1) (hL : env.locals = s.heap.objs.size) (hg : env.globals = mainGlobals) (hb : env.builtins = builtinsNs) (hf : env.frame = some env.locals)
    (l1 : env.cells.lookup ("octets" : Str) = some c1) (l2 : env.cells.lookup ("spot" : Str) = some c2) (l3 : ∀ x c, env.cells.lookup x = some c → (x = "octets" ∧ c = c1) ∨ (x = "spot" ∧ c = c2))
    (hn : h'.Ns env.locals (fun x => [(("count" : Str), v)].reverse.lookup x)) (kp : ∀ b o, s.heap.get? b = some o → h'.get? b = some o) :
    Rel G (clFm env outer) (rdW W s.heap c1 c2) [some (.int z), none, some (.bytes arr.toList), some (.mut i)] μ { s with heap := h', toks := t } := by
  obtain ⟨f1, f2, f3, f4, f5, f6, f7, f8⟩ := rd_facts
  have hk : ∀ x, env.kindOf x = readSc.lookup x := fun x => by unfold Env.kindOf; rw [hsc]
  have n12 : c1 ≠ c2 := fun q => by rw [q, h2] at h1; cases h1; rw [d1] at d2; cases d2
  have wr := (w.rd h1 d1 h2 d2).keeps (t := t) kp
  have g1 := w.φ _ _ h1
  have g2 := w.φ _ _ h2
  have hnew : s.heap.get? s.heap.objs.size = none := push_new (o := default)
  have nL : ¬ (env.locals = c1 ∨ env.locals = c2) := fun q => by
    rw [hL] at q
    rcases q with q | q
    · rw [← q, hnew] at g1; exact nosome g1
    · rw [← q, hnew] at g2; exact nosome g2
  have hvars : (clFm env outer).vars = [("count" : Str), "begin", "octets", "spot"] := by show varsOf env.scope.names = _; rw [hsc]; exact rd_vars
  refine ⟨wr, ⟨by show env.scope.kind = _; rw [hsc]; exact f3, hg, hb, by rw [hvars]; decide +kernel, fun zz x c hx zz => ?_, fun zz => hf⟩, ⟨_, hn, fun j x hx => ?_⟩, fun a ha => ?_, by show [env.locals].Nodup; simp, fun x c e => .inr ?_, fun x y c e1 e2 => ?_, fun a ha => nomatch ha⟩
  · exact absurd (hk x ▸ hx) fun q => f4 _ (PySem.mem_of_lookup q) rfl
  · rw [hvars] at hx
    match j, hx with
    | 0, hx => cases hx; exact .inl ⟨(hk _).trans f5, fun d e => by cases e; exact ⟨v, rfl, hv⟩⟩
    | 1, hx => cases hx; exact .inl ⟨(hk _).trans f6, fun d e => nosome e⟩
    | 2, hx => cases hx; exact .inr ⟨.inr ((hk _).trans f7), c1, _, l1, ⟨o1, kp _ _ g1, d1⟩, fun d e => by cases e; exact ⟨_, rfl, .bytes arr tb hz⟩⟩
    | 3, hx => cases hx; exact .inr ⟨.inr ((hk _).trans f8), c2, _, l2, ⟨o2, kp _ _ g2, d2⟩, fun d e => by cases e; exact ⟨_, rfl, .mut hπ⟩⟩
    | _ + 4, hx => exact nosome hx
  · have ha : a = env.locals := List.mem_singleton.mp ha
    subst ha
    rw [hL] at nL ⊢
    exact ⟨(rd_not nL).trans (none_of_keep w.ψ hnew), none_of_keep w.φ hnew, w.fsNone hnew, w.notMut hnew⟩
  · rcases l3 x c e with ⟨_, q⟩ | ⟨_, q⟩
    · exact ⟨o1, (rd_of (.inl q)).trans (q ▸ g1)⟩
    · exact ⟨o2, (rd_of (.inr q)).trans (q ▸ g2)⟩
  · rcases l3 x c e1 with ⟨p1, q1⟩ | ⟨p1, q1⟩ <;> rcases l3 y c e2 with ⟨p2, q2⟩ | ⟨p2, q2⟩
    · rw [p1, p2]
    · exact absurd (q1.symm.trans q2) n12
    · exact absurd (q2.symm.trans q1) n12
    · rw [p1, p2]
theorem read_call (OE : OddE G k) (O : Odd G k) {i p : Nat} {r c1 c2 sa : Addr} {o1 o2 : Obj} {arr : Array UInt8} {tb : Tok} {v : Value} {z : Int} (ca : CA W (k + 1) A) (w : WRel G W μ s) (hr : ReadAt W.φ r c1 c2) (h1 : W.φ c1 = some o1) (d1 : o1.data = .cell (some (.bytes arr tb))) (h2 : W.φ c2 = some o2) (d2 : o2.data = .cell (some (.ref sa)))
    (hz : arr.size ≤ big) (hπ : W.π[i]? = some sa) (hv : V W.π W.φ v (.int z)) (hμ : μ[i]? = some (some [.int p])) (hp : p ≤ arr.toList.length) (h0 : 0 ≤ z) {Q : D → Mu → Prop} {X : List Nat → Mu → Prop} (hQ : Q (.bytes ((arr.toList.drop p).take z.toNat)) (μ.set i (some [.int (min arr.toList.length (p + z.toNat) : Nat)]))) :
    codeAny G.M A (.call (.ref r) ⟨[v], []⟩) (CPost G W Q X) s := by
  obtain ⟨o, pm, doc, ct, cd, clos, hr0, hd, l1, l2, l3, c, oc, vs, t', ec, hc, hcd, hc1⟩ := hr
  obtain ⟨f1, f2, f3, f4, f5, f6, f7, f8⟩ := rd_facts
  obtain ⟨l, hl, _⟩ := ca.frames
  refine codeAny_call_function (body := readDef.2.1) (by have := ca.depth; unfold recursionLimit; exact ar149 this) (w.φ _ _ hr0) hd f1 f2 rfl ⟨c, oc, vs, t', ec, w.φ _ _ hc, hcd, hc1⟩ ?_
  rw [show bindArgs _ ⟨[v], []⟩ = pure [(("count" : Str), v)] by kernel_rfl]
  refine wpAny_pure (wpAny_newFunctionEnv f4 (fun x hx => ?_) (fun h' hn sb => ?_) f3)
  · rw [List.mem_singleton.mp hx]; exact f5
  have kp : ∀ b o, s.heap.get? b = some o → h'.get? b = some o := fun b o e => by
    have hb : b ≠ s.heap.objs.size := fun q => by rw [q, push_new (o := default)] at e; exact nosome e
    rw [sb.2 b hb]; exact Heap.get?_push_of_some _ e
  have kg : ∀ b o, G.H.get? b = some o → s.heap.get? b = some o := fun b o e => w.ψ _ _ (w.ground _ _ e)
  refine ⟨(w.gok.lim.keeps kg).keeps kp, codeAny_func ?_⟩
  generalize henv : newEnv readDef.2.2.1 s.heap.objs.size mainGlobals clos (qualRead ++ ".<locals>.") (some r) cd none builtinsNs = env at *
  have e1 : env.scope = readDef.2.2.1 := by rw [← henv]; rfl
  have e2 : env.locals = s.heap.objs.size := by rw [← henv]; rfl
  have e3 : env.cells = clos := by rw [← henv]; rfl
  have hf : env.frame = some env.locals := by rw [← henv]; rfl
  have rel := read_rel (outer := l) (t := s.toks + [(("count" : Str), v)].length) w h1 d1 h2 d2 hz hπ hv e1 e2 (by rw [← henv]; rfl) (by rw [← henv]; rfl) hf (by rw [e3]; exact l1) (by rw [e3]; exact l2) (by rw [e3]; exact l3) (by rw [e2]; exact hn) kp
  have a := fn_aok (F := clFm env l) (ca.rd (h := s.heap) (c1 := c1) (c2 := c2) (some_ne h1) (some_ne h2)) hl (by show env.scope.kind = _; rw [e1]; exact f3) hf
  have st : FmSt (clFm env l) readSc := ⟨⟨by show varsOf env.scope.names = _; rw [e1], fun x h => by show env.kindOf x = _; unfold Env.kindOf; rw [e1]; exact eq_of_beq h, fun x h => by show env.kindOf x = _ ∨ env.kindOf x = _; unfold Env.kindOf; rw [e1]; exact h⟩, rfl, fun x => by show env.kindOf x = _; unfold Env.kindOf; rw [e1]⟩
  have run := snd_trB (trS_snd OE O 12) readDef.2.1 (clFm env l) _ μ (endQ Q) (fun m zz => X m) st (bd_read hμ hp h0 hQ) _ (A.deeper env) _ a rel
  refine wpAny_mono run (fun fl s2 p => ?_) fun e s2 p => wpAny_mono (fn_leave a rfl p) (fun zz s3 q => ?_) fun e' s3 q => ?_
  · cases p with
    | mk W2 b ρ2 μ2 le r2 hb q =>
      obtain ⟨w3, le3⟩ := w.unrd le r2.wr
      cases hb with
      | next => exact ⟨_, .none, μ2, le3, w3, .none, q⟩
      | brk => exact q.elim
      | cont => exact q.elim
      | ret hv => exact ⟨_, _, μ2, le3, w3, hv, q⟩
  all_goals
    cases q with
    | mk W2 e msg μ2 le w2 hx ex q =>
      obtain ⟨w3, le3⟩ := w.unrd le w2
      refine ⟨_, e, msg, μ2, le3, w3, hx, ex.mono (fun a h => ⟨?_, h.2⟩) true (fun h => h), q⟩
      cases q2 : W.ψ a with
      | none => rfl
      | some o => have := h.1; rw [le.ψ, rd_keep w q2] at this; cases this
end
section
open Classical
variable {G : GG} {F : Fm} {k n : Nat} {ρ : Rho} {μ : Mu} {W : Wd} {s : Shared} {A : Around}
theorem few {es : List Expr} {p : Pos} (hpl : es.all plainB = true) (hlen : es.length < 20) : ((backTo p (starEach es F.env)).all (fun x => !x.1) && (backToKw p (keywordEach [] F.env)).all (fun x => x.1.isSome) && decide (es.length + ([] : List Keyword).length + (if ([] : List Keyword).isEmpty then 0 else 1) < 30)) = true := by
  rw [(back_plain p F.env hpl).2]
  show (true && true && decide (es.length + 0 + 0 < 30)) = true
  simp; exact ar121 hlen
theorem rdOk (h : ∀ j, j + 2 ≤ k → OddE G j ∧ Odd G j) : RdOk G k := fun F ρ μ o es p p' QM X c1 c2 c3 c4 h0 W A s a r => by
  rw [arm_eval_Call, base_plain c3]
  refine wpAny_bind (wp2 (.refl W) h0 a r (fun v s1 W1 x ρ1 μ1 le1 a1 r1 v1 q1 => ?_) fun zz zz p => p)
  obtain ⟨⟨hk, b, i, ex⟩, hargs⟩ := q1
  subst ex
  obtain ⟨j, rfl⟩ : ∃ j, k = j + 2 := ⟨k - 2, by exact ar155 hk⟩
  obtain ⟨OE, O⟩ := h j (Nat.le_refl _)
  cases v1 with
  | strm hst =>
  obtain ⟨os, fd, d, od, es', ep, rr, d1, d2, arr, tb, sa, e1, k1, k2, k3, e2, k4, k5, k6, k7, o1, e3, k8, o2, e4, k9, k10, k11, e5⟩ := hst
  have hns : s1.heap.Ns d (nsFind es') := ⟨od, es', ep, r1.wr.φ _ _ e2, k4, k5, fun zz => rfl⟩
  refine wpAny_bind (wpAny_standAt ?_)
  have hform : methodCallForm (es.length + ([] : List Keyword).length) (backTo p (starEach es F.env)) (backToKw p (keywordEach [] F.env)) = true := few c4 c2
  have hpos : methodCallPos true o F.env p' p = pure p := by unfold methodCallPos; simp [c1]
  unfold methodCall
  rw [hform]
  refine wpAny_bind (wpAny_holding (get_read (r1.wr.φ _ _ e1) k1 k2 k3 hns k6 (wpAny_bind (wpAny_of_eq hpos ?_))))
  have r1' := r1.toks (s1.toks + 1)
  obtain ⟨of, pm, doc, ct, cd, clos, hr0, hd, _⟩ := id k7
  cases es with
  | nil =>
    intro Γ p0 hΓ
    have q : PQ G F W1 RVs (fun ds ρ₂ μ₂ => vcMe .read (.strm b i) ds μ₂ fun d μ₃ => QM d ρ₂ μ₃) [] { s1 with toks := s1.toks + 1 } := hargs W1 A _ a1 r1' Γ p0 hΓ
    cases q with
    | mk W2 ds ρ2 μ2 le2 r2 v2 q2 =>
      obtain ⟨_, _, _, _, hds, _⟩ := q2
      cases v2
      cases hds
  | cons e es =>
    rw [List.all_cons, Bool.and_eq_true] at c4
    refine PyProof.Rows.callWith_def hd (wpAny_mono (hargs W1 A _ a1 r1') (fun vs s2 q => ?_) fun zz zz q => q.up le1) (star_plain c4.1 es F.env)
    cases q with
    | mk W2 ds ρ2 μ2 le2 r2 v2 q2 =>
      obtain ⟨b', i', z, eb, hds, pp, hμ, hp, h0', _, _, hq⟩ := q2
      cases eb
      subst hds
      obtain ⟨u, rfl, hu⟩ := Vs.one v2
      refine ⟨r2.wr.φ _ _ (le2.φ _ _ hr0), ?_⟩
      have run := read_call (Q := fun d μ' => QM d ρ2 μ') (X := fun zz zz => False) OE O (r2.enterA (a1.up le2)) r2.enter (k7.mono le2.φ) (le2.φ _ _ e3) k8 (le2.φ _ _ e4) k9 k11 (le2.π _ _ e5) hu hμ (by rw [k10]; exact hp) h0' (by rw [k10]; exact hq)
      refine wpAny_mono (call_any r2 run) (fun v3 s3 q => ?_) fun zz zz q => ?_
      · cases q with
        | mk W3 d3 ρ3 μ3 le3 r3 v3 q3 => exact ⟨W3, d3, ρ3, μ3, (le1.trans le2).trans le3, r3, v3, q3.1 ▸ q3.2⟩
      · cases q with
        | mk _ _ _ _ _ _ _ _ _ q => exact q.2.elim
end
section
open PySem.Builtin PySem.Builtin.ObjectAttr
variable {G : GG} {A : Around} {s : Shared}
theorem slot_fsa : Slot "function" "__setattr__" "object.__setattr__" :=
  .of (owner := "object") (n := "__setattr__") (by rw [typeLookup_type, builtinLookup_eq_fast]; kernel_rfl) (by decide +kernel) (by decide +kernel) (by decide +kernel)
    (by first | exact .inl (by decide +kernel) | exact .inr (by decide +kernel)) (by rw [isSubtype_type]; kernel_rfl)
theorem entry_fsa : entryFor table "object.__setattr__" = some Builtin.«object.__setattr__» := entryFor_of_tree (by kernel_rfl)
theorem fn_mro : mroOf (.type "function") = pure [.type "function", .type "object"] := by rw [mroOf_type]; kernel_rfl
theorem fn_pass (v : Value) : refuseLoop v "__setattr__" [.type "function", .type "object"] = pure () := by kernel_rfl
theorem set_read {a : Addr} {o : Obj} {fd : FuncData} {v : Value} {Q : Unit → Shared → Prop} {E : Value → Shared → Prop} (ho : s.heap.get? a = some o) (hc : o.cls = .type "function") (hd : o.data = .func fd) (hdn : o.dict = none)
    (hq : ∀ h' d tk, s.heap.get? d = none → (∃ m, h'.Ns d m ∧ m "read" = some v) → h'.get? a = some { o with dict := some d } → (∀ b o', b ≠ a → s.heap.get? b = some o' → h'.get? b = some o') → Q () { s with heap := h', toks := tk }) :
    wpAny G.M A (setAttr (.ref a) "read" v) Q E s := by
  have hT : s.TypeIs (.ref a) "function" := ⟨o, ho, hc⟩
  have hT' : ({ s with toks := s.toks + 1 } : Shared).TypeIs (.ref a) "function" := ⟨o, ho, hc⟩
  unfold setAttr
  refine wpAny_bind (wpAny_mkText (wpAny_bind (wpAny_callSpecial?_slot (name := Str.ofString "__setattr__") hT' slot_fsa (wpAny_call_entry slot_fsa hT' entry_fsa ?_ (PySem.F.args_object_setattr_3 _ _ _)))))
  unfold Builtin.«object.__setattr__»
  show wpAny _ _ (do refuseIfOverridden (.ref a) "__setattr__"; _) _ _ _
  rw [refuse_eq]
  refine wpAny_bind (wpAny_bind (wpAny_typeOf hT' (wpAny_bind (wpAny_of_eq fn_mro (wpAny_of_eq (fn_pass _) ?_)))))
  refine wpAny_bind (wpAny_of_eq (a := ("read" : Str)) rfl ?_)
  refine wpAny_bind (wpAny_typeOf hT' (wpAny_bind (wpAny_of_eq fl_read ?_)))
  refine wpAny_bind (wpAny_of_eq (a := none) rfl ?_)
  refine wpAny_bind (wpAny_of_eq (a := ()) rfl ?_)
  rw [if_neg (by decide)]
  refine wpAny_bind ?_
  refine wpAny_bind (wpAny_loadPart ho ?_)
  rw [hc, hdn, hd]
  have hne : a ≠ s.heap.objs.size := Nat.ne_of_lt (Heap.lt_size ho)
  have ho₁ : (s.heap.push { cls := .type "dict", data := .dict #[] }).get? a = some o := Heap.get?_push_of_some _ ho
  refine wpAny_bind (wpAny_alloc (wpAny_bind (wpAny_update ho₁ ?_)))
  refine wpAny_of_eq (a := some s.heap.objs.size) (by kernel_rfl) ?_
  have hgd : ((s.heap.push { cls := .type "dict", data := .dict #[] }).update a fun o => { o with dict := some s.heap.objs.size }).get? s.heap.objs.size = some { cls := .type "dict", data := .dict #[] } :=
    (Heap.get?_update_other _ _ hne).trans (Heap.get?_push_size _ rfl)
  have hnd : ((s.heap.push { cls := .type "dict", data := .dict #[] }).update a fun o => { o with dict := some s.heap.objs.size }).Ns s.heap.objs.size (fun zz => none) :=
    ⟨_, #[], _, hgd, rfl, fun e he => absurd he (by simp), fun zz => rfl⟩
  refine wpAny_bind (wpAny_pure (wpAny_bind (wpAny_nsSet1 (Heap.Ns1.of_empty hnd) fun h' hn' hs => ?_)))
  obtain ⟨oD, esD, epD, hoD, hdD, hcD⟩ := hn'.count (Within.cons "read" v Within.nil)
  refine wpAny_bind (wpAny_lookBehind hoD (by rw [hdD]; exact pastItsLine_dict (Nat.le_trans hcD (by rw [List.length_cons, List.length_nil, sizeLine_eq]; exact Nat.succ_pos _))) ?_)
  refine wpAny_pure ⟨_, rfl, wpAny_pure (hq h' s.heap.objs.size _ (push_new (o := default)) ⟨_, hn'.ns, if_pos rfl⟩ ?_ fun b o' hb e => ?_)⟩
  · refine (hs.2 a hne).trans (Heap.get?_update_self _ ho₁ ?_)
    have hfr := (Heap.get?_some_iff.mp ho).2
    obtain ⟨oc, od, odt, osl⟩ := o
    cases odt <;> first | rfl | exact hfr
  · have hb2 : b ≠ s.heap.objs.size := Nat.ne_of_lt (Heap.lt_size e)
    rw [hs.2 b hb2, Heap.get?_update_other _ _ (Ne.symm hb)]
    exact Heap.get?_push_of_some _ e
end
section
variable {G : GG} {F : Fm} {k n : Nat} {ρ : Rho} {μ : Mu} {W : Wd} {s : Shared} {A : Around} {E : Value → Shared → Prop}
theorem codeAmong_app {pos p : Pos} {c cv : Value} (l : List Value) (h : TriplesOk l) (e : codeAmong p (l ++ [rawInt pos.line, rawInt pos.col, c]) = some cv) : codeAmong p l = some cv ∨ (cv = c ∧ pos.line = p.line) := by
  fun_induction TriplesOk l with
  | case1 =>
    change (if ((pos.line : Int) == p.line && (pos.col : Int) == p.col) = true then some c else codeAmong p []) = some cv at e
    by_cases q : ((pos.line : Int) == p.line && (pos.col : Int) == p.col) = true
    · rw [if_pos q] at e
      rw [Bool.and_eq_true] at q
      exact .inr ⟨(Option.some.inj e).symm, Int.ofNat.inj (eq_of_beq q.1)⟩
    · rw [if_neg q] at e; exact nosome e
  | case2 a t b u x rest ih =>
    rw [List.cons_append, List.cons_append, List.cons_append] at e
    change (if (a == p.line && b == p.col) = true then some x else codeAmong p (rest ++ _)) = some cv at e
    show (if (a == p.line && b == p.col) = true then some x else codeAmong p rest) = some cv ∨ _
    by_cases q : (a == p.line && b == p.col) = true
    · rw [if_pos q] at e ⊢; exact .inl e
    · rw [if_neg q] at e ⊢; exact ih h e
  | case3 l h1 h2 => exact h.elim
noncomputable abbrev readPos : Pos := readDef.2.2.2
noncomputable def CodeIn (W : Wd) (qual : Str) (cv : Value) : Prop := ∃ c oc vs t, cv = .ref c ∧ W.φ c = some oc ∧ oc.data = .fields vs ∧ vs[1]? = some (.str qual t)
theorem WRel.grow (w : WRel G W μ s) {h' : Heap} {tk : Nat} {ps : Array Value} {c : Addr} {oc : Obj} (hx : Heap.ExtBut G.P s.heap h') (hP : h'.get? G.P = some (tabO ps)) (ht : TriplesOk ps.toList) (hn : s.heap.get? c = none) (ho : h'.get? c = some oc)
    (hc : ∀ cv, codeAmong readPos ps.toList = some cv → CodeIn { W with φ := W.φ.set c oc } qualRead cv) : WRel G { W with φ := W.φ.set c oc } μ { s with heap := h', toks := tk } ∧ W.le { W with φ := W.φ.set c oc } := by
  have h1 := none_of_keep w.ψ hn
  have h2 := none_of_keep w.φ hn
  have h3 := w.fsNone hn
  have le : W.le { W with φ := W.φ.set c oc } := ⟨rfl, rfl, PMap.le_set h2, .refl _, rfl, fun b h e => PMap.set_none e fun q => by
    subst q
    exact h.elim (fun h => h h1) fun h => h h3⟩
  obtain ⟨ps', efs⟩ := w.tab.fs
  have nπ : ∀ a ∈ W.π, a ≠ G.P := fun a ha q => by rw [q] at ha; rw [(w.apart _ ha).2] at efs; exact nosome efs
  refine ⟨⟨w.gok, w.ground, fun a o e => hx a o (fun q => by rw [q, w.tab.ψ] at e; exact nosome e) (w.ψ a o e), fun a o e => ?_, fun a o e hp => (w.fs a o e hp).imp fun sl h => hx a _ hp h, w.len, fun i a ds e1 e2 => ?_, w.nodup, w.apart,
    fun i a ds e1 e2 => PMap.set_none (w.live i a ds e1 e2) fun q => w.notMut hn (q ▸ List.mem_of_getElem? e1), fun i a e1 e2 => ?_, ⟨⟨ps, hP, ht, hc⟩, w.tab.ψ, PMap.set_none w.tab.φ fun q => ?_, w.tab.fs⟩, ?_⟩, le⟩
  · rcases PMap.set_some e with ⟨e1, e2⟩ | e
    · rw [e1, e2]; exact ho
    · exact hx a o (fun q => by rw [q, w.tab.φ] at e; exact nosome e) (w.φ a o e)
  · obtain ⟨us, m, g1, g2, g3⟩ := w.muts i a ds e1 e2
    exact ⟨us, m, hx a _ (nπ a (List.mem_of_getElem? e1)) g1, g2, g3.up le⟩
  · obtain ⟨us, m, g⟩ := w.done i a e1 e2
    exact ⟨us, m, le.φ _ _ g⟩
  · obtain ⟨p0, e0, _⟩ := w.tab.st
    rw [q, hn] at e0; exact nosome e0
  · obtain ⟨h, t', e⟩ := w.rest
    exact ⟨h', tk, by rw [e]⟩
inductive MC (G : GG) (F : Fm) (W : Wd) (ρ : Rho) (μ : Mu) (pos : Pos) (cv : Value) (s' : Shared) : Prop
  | mk (W' : Wd) (le : W.le W') (r : Rel G F W' ρ μ s') (hc : pos = readPos → CodeIn W' qualRead cv)
theorem make_code (r : Rel G F W ρ μ s) (hcode : F.env.code = .ref G.C) {pos : Pos} {fl : Nat} {name qual : Str} {params : Arguments} {scope : Scope} {body : FuncBody} (hq : pos.line = readPos.line → qual = qualRead) :
    wpAny G.M A (functionCode F.env pos fl name qual params scope body) (fun cv s' => MC G F W ρ μ pos cv s') E s := by
  obtain ⟨ps, e, t1, t2⟩ := r.wr.tab.st
  have kp : ∀ b o, G.H.get? b = some o → s.heap.get? b = some o := fun b o e => r.wr.ψ _ _ (r.wr.ground _ _ e)
  obtain ⟨hic, hta⟩ := r.wr.gok.code s.heap ps kp e t1
  cases h : codeAmong pos ps.toList with
  | some cv => exact wpAny_functionCode_hit hcode hic h ⟨W, .refl W, r, fun q => by subst q; exact t2 cv h⟩
  | none =>
    refine wpAny_functionCodeX hcode hic hta h fun c' h' tk hx hge hlt hic' hrec hta' zz => ?_
    obtain ⟨c2, oc, vs, tq, e2, ho, hd, hv⟩ := hrec
    cases e2
    have hn : s.heap.get? c' = none := Heap.get?_none_of_le hge
    have hl : (ps ++ #[rawInt pos.line, rawInt pos.col, Value.ref c']).toList = ps.toList ++ [rawInt pos.line, rawInt pos.col, .ref c'] := by simp
    have cin : pos.line = readPos.line → CodeIn { W with φ := W.φ.set c' oc } qualRead (.ref c') := fun q => ⟨c', oc, vs, tq, rfl, PMap.set_at _ _ _, hd, by rw [hq q] at hv; exact hv⟩
    have grow := r.wr.grow (tk := tk) hx hta'.2 (by rw [hl]; exact TriplesOk_snoc _ _ _ _ t1) hn ho fun cv hcv => by
      rw [hl] at hcv
      rcases codeAmong_app _ t1 hcv with q | ⟨q1, q2⟩
      · obtain ⟨c, oc', vs', t', a1, a2, a3⟩ := t2 cv q
        exact ⟨c, oc', vs', t', a1, PMap.le_set (none_of_keep r.wr.φ hn) _ _ a2, a3⟩
      · rw [q1]; exact cin q2
    obtain ⟨w2, le⟩ := grow
    refine ⟨_, le, r.ofW w2 le (fun b o hb e => hx b o (fun q => ?_) e) (fun b hb => ⟨PMap.set_none (r.priv b hb).2.1 fun q => r.not_new hn (q ▸ hb), (r.priv b hb).2.2.2⟩), fun q => cin (by rw [q])⟩
    obtain ⟨ps', efs⟩ := r.wr.tab.fs
    rcases hb with hb | hb
    · rw [q] at hb; rw [(r.priv _ hb).2.2.1] at efs; exact nosome efs
    · rw [q] at hb; exact hb r.wr.tab.ψ
noncomputable abbrev fnFd (name qual : Str) (params : Arguments) (body : FuncBody) (scope : Scope) (clos : List (Str × Addr)) (ct cv pm : Value) : FuncData :=
  { name := name, qualname := qual, params := params, body := body, scope := scope, globals := mainGlobals, closure := clos, closureTuple := ct, code := cv, builtins := builtinsNs, defaults := .none, kwdefaults := .none, annotations := none, pyModule := pm, doc := .none }
inductive MF (G : GG) (F : Fm) (W : Wd) (ρ : Rho) (μ : Mu) (pos : Pos) (name qual : Str) (params : Arguments) (body : FuncBody) (scope : Scope) (clos : List (Str × Addr)) (v : Value) (s' : Shared) : Prop
  | mk (W' : Wd) (f : Addr) (ct cv pm : Value) (le : W.le W') (r : Rel G F W' ρ μ s') (hv : v = .ref f) (ho : Out F W' f) (hf : s'.heap.get? f = some { cls := .type "function", data := .func (fnFd name qual params body scope clos ct cv pm) }) (hc : pos = readPos → CodeIn W' qualRead cv)
theorem make_fn (r : Rel G F W ρ μ s) (hcode : F.env.code = .ref G.C) {pos : Pos} {fl : Nat} {name qual : Str} {params : Arguments} {scope : Scope} {body : FuncBody} {clos : List (Str × Addr)} (hq : pos.line = readPos.line → qual = qualRead) (hcl : closureFor scope F.env = pure clos) (hdoc : ∀ b, body = .stmts b → docOf b = none) :
    wpAny G.M A (makeFunction name qual params body scope F.env [] [] [] pos fl) (fun v s' => MF G F W ρ μ pos name qual params body scope clos v s') E s := by
  rw [makeFunction_eq]
  simp only [List.zip_nil_right, List.filterMap_nil, List.isEmpty_nil, if_true, pure_bind]
  unfold makeTail
  rw [hcl, r.ok.glob]
  refine wpAny_bind (wpAny_pure ?_)
  have rest : ∀ {s1 : Shared} (ct : Value), Rel G F W ρ μ s1 → wpAny G.M A (do
      let cv ← functionCode F.env pos fl name qual params scope body
      let bi ← builtinsFor mainGlobals F.env.builtins
      let nm ← nsGet mainGlobals "__name__"
      let mk : Value → Sem Value := fun doc => newObj (.type "function") (.func { name := name, qualname := qual, params := params, body := body, scope := scope, globals := mainGlobals, closure := clos, closureTuple := ct, code := cv, builtins := bi, defaults := .none, kwdefaults := .none, annotations := none, pyModule := nm.getD .none, doc := doc })
      match body with
        | .stmts b => do
          let d ← (match docOf b with
            | some s => mkText s
            | none => pure .none)
          mk d
        | .expr _ => do
          let d ← pure .none
          mk d) (fun v s' => MF G F W ρ μ pos name qual params body scope clos v s') E s1 := fun {s1} ct r1 => by
    refine wpAny_bind (wpAny_mono (make_code r1 hcode hq) (fun cv s2 h => ?_) fun zz zz h => h)
    cases h with
    | mk W' le r2 hc =>
    have kp : ∀ b o, G.H.get? b = some o → s2.heap.get? b = some o := fun b o e => r2.wr.ψ _ _ (r2.wr.ground _ _ e)
    have hg := r2.wr.gok.gns.keeps kp
    obtain ⟨bm, ob, b1, b2, b3, b4, b5, b6⟩ := r2.wr.gok.bmain
    refine wpAny_bind (wpAny_builtinsFor hg b1 b2 (kp _ _ b3) b4 b5 b6 ?_)
    refine wpAny_bind (wpAny_nsGet hg ?_)
    have fin : ∀ pm, wpAny G.M A (newObj (.type "function") (.func (fnFd name qual params body scope clos ct cv pm))) (fun v s' => MF G F W ρ μ pos name qual params body scope clos v s') E s2 := fun pm =>
      wpAny_newObj_type ⟨W', s2.heap.objs.size, ct, cv, pm, le, r2.keeps (t := s2.toks) fun b o e => Heap.get?_push_of_some _ e, rfl, r2.out_new (push_new (o := default)), Heap.get?_push_size _ rfl, hc⟩ (by size_fits)
    cases body with
    | stmts b =>
      show wpAny _ _ ((match docOf b with | some s => mkText s | none => pure Value.none) >>= _) _ _ _
      rw [hdoc b rfl]
      exact wpAny_bind (wpAny_pure (fin _))
    | expr e => exact wpAny_bind (wpAny_pure (fin _))
  cases clos with
  | nil => exact wpAny_bind (wpAny_pure (rest .none r))
  | cons q t => exact wpAny_bind (wpAny_newTextTuple (rest _ (r.keeps (t := s.toks) fun b o e => Heap.get?_push_of_some _ e)))
end
section
variable {G : GG} {F : Fm} {k n : Nat} {ρ : Rho} {μ : Mu} {W : Wd} {s : Shared} {A : Around} {E : Value → Shared → Prop}
theorem strm_form : ∃ la lb lsc p2 p3 p4 p6 p7 p8 p9 p10 p11 p12 p13 q13 n1 p1, (defOf "_law_stream").2.1 = [.Assign [.Name "spot" p1] (.List [.Constant (.int 0) n1 p2] p3) p4, .FunctionDef "read" readDef.1 readDef.2.1 [] none [] readDef.2.2.1 none "read" readPos, .Assign [.Name "stream" p6] (.Lambda la lb lsc p7) p8, .Assign [.Attribute (.Name "stream" p9) "read" p10] (.Name "read" p11) p12, .Return (some (.Name "stream" p13)) q13] ∧
    (p7.line ≠ readPos.line) ∧ (la.defaults = [] ∧ la.kw_defaults = []) ∧ ∀ y ∈ lsc.names, y.2 ≠ .free :=
  ⟨_, _, _, _, _, _, _, _, _, _, _, _, _, _, _, _, _, rfl, by decide +kernel, ⟨rfl, rfl⟩, fun y hy => nomatch hy⟩
theorem read_args : readDef.1.defaults = [] ∧ readDef.1.kw_defaults = [] ∧ (∀ env, annTrees readDef.1 none env = []) ∧ docOf readDef.2.1 = none := ⟨by kernel_rfl, by kernel_rfl, fun env => by kernel_rfl, by kernel_rfl⟩
noncomputable abbrev strmSc : Sc := (defOf "_law_stream").2.2.names
theorem strm_vars : varsOf strmSc = [("octets" : Str), "read", "stream", "spot"] ∧ fnOk (defOf "_law_stream").2.2 ["octets"] = true ∧ strmSc.lookup ("octets" : Str) = some NameKind.cell ∧ strmSc.lookup ("spot" : Str) = some NameKind.cell ∧ strmSc.lookup ("read" : Str) = some NameKind.local ∧ strmSc.lookup ("stream" : Str) = some NameKind.local :=
  ⟨by kernel_rfl, by kernel_rfl, by kernel_rfl, by kernel_rfl, by kernel_rfl, by kernel_rfl⟩
theorem strm_cell (x : Str) (h : (x, NameKind.cell) ∈ strmSc) : x = "octets" ∨ x = "spot" := by
  have h2 : (strmSc.all fun y => y.2 != .cell || y.1 == ("octets" : Str) || y.1 == ("spot" : Str)) = true := by kernel_rfl
  have := List.all_eq_true.mp h2 _ h
  rw [Bool.or_eq_true, Bool.or_eq_true] at this
  rcases this with (q | q) | q
  · exact absurd q (show ¬ (NameKind.cell != NameKind.cell) = true by decide)
  · exact .inl (eq_of_beq q)
  · exact .inr (eq_of_beq q)
theorem read_free : (("octets" : Str), NameKind.free) ∈ readSc ∧ (("spot" : Str), NameKind.free) ∈ readSc ∧ ∀ y ∈ readSc, y.2 = .free → y.1 = "octets" ∨ y.1 = "spot" := by
  obtain ⟨_, _, _, _, _, _, f7, f8⟩ := rd_facts
  refine ⟨PySem.mem_of_lookup f7, PySem.mem_of_lookup f8, fun y hy e => ?_⟩
  have h2 : (readSc.all fun y => y.2 != .free || y.1 == ("octets" : Str) || y.1 == ("spot" : Str)) = true := by kernel_rfl
  have := List.all_eq_true.mp h2 _ hy
  rw [Bool.or_eq_true, Bool.or_eq_true, e] at this
  rcases this with (q | q) | q
  · exact absurd q (show ¬ (NameKind.free != NameKind.free) = true by decide)
  · exact .inl (eq_of_beq q)
  · exact .inr (eq_of_beq q)
theorem Rel.freezeOut (r : Rel G F W ρ μ s) {a : Addr} {o : Obj} (ho : Out F W a) (hg : s.heap.get? a = some o) : Rel G F { W with φ := W.φ.set a o } ρ μ s ∧ W.le { W with φ := W.φ.set a o } := by
  obtain ⟨w, le⟩ := r.wr.freezeAt ho.1 ho.2.1 ho.2.2.1 ho.2.2.2.1 hg
  exact ⟨r.ofW w le (fun zz zz zz e => e) fun b hb => ⟨PMap.set_none (r.priv b hb).2.1 fun q => ho.2.2.2.2 (q ▸ hb), (r.priv b hb).2.2.2⟩, le⟩
theorem x_read (r : Rel G F W ρ μ s) (hcode : F.env.code = .ref G.C) (hqual : F.env.qual = "_law_stream.<locals>.") (hk : F.env.kindOf "read" = some .local) (hi : F.vars[1]? = some ("read" : Str)) {c1 c2 : Addr} (l1 : F.env.cells.lookup ("octets" : Str) = some c1) (l2 : F.env.cells.lookup ("spot" : Str) = some c2) (l3 : ∀ x c, F.env.cells.lookup x = some c → (x = "octets" ∧ c = c1) ∨ (x = "spot" ∧ c = c2)) :
    wpAny G.M A (exec (.FunctionDef "read" readDef.1 readDef.2.1 [] none [] readDef.2.2.1 none "read" readPos) F.env) (fun fl s' => fl = .next ∧ ∃ W' f, W.le W' ∧ Rel G F W' (put ρ 1 (some (.obj f))) μ s' ∧ ReadAt W'.φ f c1 c2) E s := by
  obtain ⟨a1, a2, a3, a4⟩ := read_args
  obtain ⟨g1, g2, g3⟩ := read_free
  rw [exec_def]
  refine wpAny_bind (wpAny_standAt (wpAny_bind (wpAny_holding ?_)))
  rw [defaultsOf_eq, a1, a2, a3]
  refine wpAny_bind (wpAny_pure (wpAny_bind (wpAny_holding (wpAny_pure (wpAny_holding (wpAny_bind (wpAny_pure ?_)))))))
  obtain ⟨cl, hcl, hcl1, hcl2⟩ := closure_is readDef.2.2.1 F.env fun y hy e => by
    rcases g3 y hy e with q | q
    · rw [q]; exact ⟨c1, l1⟩
    · rw [q]; exact ⟨c2, l2⟩
  have hq : qualnameIn F.env "read" "read" = qualRead := by
    unfold qualnameIn
    rw [hk, if_neg (by decide), hqual]; kernel_rfl
  rw [hq]
  refine wpAny_mono (make_fn r hcode (fun zz => rfl) hcl fun b e => by cases e; exact a4) (fun v s1 h => ?_) fun zz zz h => h
  cases h with
  | mk W' f ct cv pm le r1 hv ho hf hc =>
  subst hv
  obtain ⟨r2, le2⟩ := r1.freezeOut ho hf
  refine wpAny_bind (wpAny_standAt (wpAny_bind (wpAny_bindName (wpAny_mono (r2.store hi (.obj f) (.inl hk)) (fun zz s3 h3 => wpAny_pure ⟨rfl, _, f, le.trans le2, h3.1, ?_⟩) fun zz zz h => h))))
  obtain ⟨c, oc, us, t, q1, q2, q3, q4⟩ := hc rfl
  obtain ⟨c', p1, p2⟩ := hcl2 _ g1 rfl
  obtain ⟨c'', p3, p4⟩ := hcl2 _ g2 rfl
  rw [l1] at p2; cases p2
  rw [l2] at p4; cases p4
  refine ⟨_, pm, .none, ct, cv, cl, PMap.set_at _ _ _, rfl, p1, p3, fun x c h => l3 x c (hcl1 x c h), c, oc, us, t, q1, le2.φ _ _ q2, q3, q4⟩
theorem x_lam (r : Rel G F W ρ μ s) (hcode : F.env.code = .ref G.C) (hk : F.env.kindOf "stream" = some .local) (hi : F.vars[2]? = some ("stream" : Str)) {la : Arguments} {lb : Expr} {lsc : Scope} {p6 p7 p8 : Pos} (hp : p7.line ≠ readPos.line) (hd : la.defaults = [] ∧ la.kw_defaults = []) (hf : ∀ y ∈ lsc.names, y.2 ≠ .free) :
    wpAny G.M A (exec (.Assign [.Name "stream" p6] (.Lambda la lb lsc p7) p8) F.env) (fun fl s' => fl = .next ∧ ∃ W' f fd, W.le W' ∧ Rel G F W' (put ρ 2 (some (.obj f))) μ s' ∧ Out F W' f ∧ s'.heap.get? f = some { cls := .type "function", data := .func fd }) E s := by
  refine wpAny_Assign_Name ?_ rfl
  obtain ⟨cl, hcl, _⟩ := closure_is lsc F.env fun y hy e => absurd e (hf y hy)
  rw [arm_eval_Lambda, defaultsOf_eq, hd.1, hd.2]
  refine wpAny_bind (wpAny_pure (wpAny_bind (wpAny_holding (wpAny_pure ?_))))
  refine wpAny_mono (make_fn r hcode (fun q => absurd q hp) hcl fun b e => nomatch e) (fun v s1 h => ?_) fun zz zz h => h
  cases h with
  | mk W' f ct cv pm le r1 hv ho hf hc =>
  subst hv
  exact wpAny_mono (r1.store hi (.obj f) (.inl hk)) (fun zz s3 h3 => ⟨rfl, W', f, _, le, h3.1, ho, h3.2 _ _ ho hf⟩) fun zz zz h => h
theorem x_attr (r : Rel G F W ρ μ s) {f g : Addr} {fd : FuncData} (hx : F.vars[1]? = some ("read" : Str)) (hy : F.vars[2]? = some ("stream" : Str)) (kx : F.env.kindOf "read" = some .local) (ky : F.env.kindOf "stream" = some .local) (h1 : look ρ 1 = some (.obj f)) (h2 : look ρ 2 = some (.obj g)) (ho : Out F W g) (hg : s.heap.get? g = some { cls := .type "function", data := .func fd }) {p9 p10 p11 p12 : Pos} :
    wpAny G.M A (exec (.Assign [.Attribute (.Name "stream" p9) "read" p10] (.Name "read" p11) p12) F.env) (fun fl s' => fl = .next ∧ ∃ d m, Rel G F W ρ μ s' ∧ s'.heap.get? g = some { cls := .type "function", dict := some d, data := .func fd } ∧ s'.heap.Ns d m ∧ m "read" = some (.ref f) ∧ Out F W d ∧ d ≠ g) E s := by
  refine plainObj_wpAny_Assign_Attribute (wpAny_Name (load_loc r hx (.inl kx) h1 fun v hv => ?_) (by decide +kernel)) rfl
  cases hv
  refine wpAny_Name (load_loc r hy (.inl ky) h2 fun v hv => ?_) (by decide +kernel)
  cases hv
  refine set_read hg rfl rfl rfl fun h' d tk hn hm hg' kp => ?_
  obtain ⟨m, hm1, hm2⟩ := hm
  exact ⟨rfl, d, m, r.touch (t := tk) fun b o q e => kp b o (fun z => q (z ▸ ho)) e, hg', hm1, hm2, r.out_new hn, fun q => by rw [q, hg] at hn; cases hn⟩
end
section
variable {G : GG} {F : Fm} {k n : Nat} {ρ : Rho} {μ : Mu} {W : Wd} {s : Shared} {A : Around} {E : Value → Shared → Prop}
theorem strm_end (r : Rel G F W ρ μ s) (hv : F.vars = [("octets" : Str), "read", "stream", "spot"]) (ko : F.env.kindOf "octets" = some .cell) (ks : F.env.kindOf "spot" = some .cell) {c1 c2 : Addr} (l1 : F.env.cells.lookup ("octets" : Str) = some c1) (l2 : F.env.cells.lookup ("spot" : Str) = some c2) (o1 : c1 ∈ F.own) (o2 : c2 ∈ F.own)
    {b : List UInt8} {i : Nat} (e0 : look ρ 0 = some (.bytes b)) (e3 : look ρ 3 = some (.mut i)) {f g d : Addr} {fd : FuncData} {m : Str → Option Value} (ra : ReadAt W.φ f c1 c2) (og : Out F W g) (hg : s.heap.get? g = some { cls := .type "function", dict := some d, data := .func fd }) (hm : s.heap.Ns d m) (hr : m "read" = some (.ref f)) (od : Out F W d) (hne : d ≠ g) :
    ∃ W', W.le W' ∧ WRel G W' μ s ∧ V W'.π W'.φ (.ref g) (.strm b i) := by
  obtain ⟨mm, _, hvs⟩ := r.loc
  rcases hvs 0 "octets" (by rw [hv]; rfl) with ⟨q, _⟩ | ⟨_, c, o, q1, ⟨oc1, g1, d1⟩, q4⟩
  · rw [ko] at q; cases q
  rcases hvs 3 "spot" (by rw [hv]; rfl) with ⟨q, _⟩ | ⟨_, c', o', q1', ⟨oc2, g2, d2⟩, q4'⟩
  · rw [ks] at q; cases q
  rw [l1] at q1; cases q1
  rw [l2] at q1'; cases q1'
  obtain ⟨v, eo, hv⟩ := q4 _ e0
  obtain ⟨arr, t, ev, eb, hz⟩ := hv.inv
  subst eo ev
  obtain ⟨v, eo, hv⟩ := q4' _ e3
  obtain ⟨sa, ev, hπ⟩ := hv.inv
  subst eo ev
  clear hvs q4 q4' hv
  obtain ⟨od', es, ep, gd, dd, kd, fd'⟩ := hm
  have p1 := r.priv c1 (List.mem_cons_of_mem _ o1)
  have p2 := r.priv c2 (List.mem_cons_of_mem _ o2)
  have n12 : c2 ≠ c1 := fun q => by rw [q, g1] at g2; cases g2; rw [d1] at d2; cases d2
  have ng1 : g ≠ c1 := fun q => og.2.2.2.2 (q ▸ List.mem_cons_of_mem _ o1)
  have ng2 : g ≠ c2 := fun q => og.2.2.2.2 (q ▸ List.mem_cons_of_mem _ o2)
  have nd1 : d ≠ c1 := fun q => od.2.2.2.2 (q ▸ List.mem_cons_of_mem _ o1)
  have nd2 : d ≠ c2 := fun q => od.2.2.2.2 (q ▸ List.mem_cons_of_mem _ o2)
  obtain ⟨w1, le1⟩ := r.wr.freezeAt p1.1 p1.2.1 p1.2.2.1 p1.2.2.2 g1
  obtain ⟨w2, le2⟩ := w1.freezeAt (a := c2) p2.1 (PMap.set_none p2.2.1 n12) p2.2.2.1 p2.2.2.2 g2
  obtain ⟨w3, le3⟩ := w2.freezeAt (a := g) og.1 (PMap.set_none (PMap.set_none og.2.1 ng1) ng2) og.2.2.1 og.2.2.2.1 hg
  obtain ⟨w4, le4⟩ := w3.freezeAt (a := d) od.1 (PMap.set_none (PMap.set_none (PMap.set_none od.2.1 nd1) nd2) hne) od.2.2.1 od.2.2.2.1 gd
  refine ⟨_, ((le1.trans le2).trans le3).trans le4, w4, .strm ⟨_, fd, d, od', es, ep, f, c1, c2, arr, t, sa, le4.φ _ _ (PMap.set_at _ _ _), rfl, rfl, rfl, PMap.set_at _ _ _, dd, kd, by rw [fd']; exact hr, (ra.mono le1.φ).mono (le2.φ.trans (le3.φ.trans le4.φ)), oc1, (le2.φ.trans (le3.φ.trans le4.φ)) _ _ (PMap.set_at _ _ _), d1, oc2, (le3.φ.trans le4.φ) _ _ (PMap.set_at _ _ _), d2, eb, hz, hπ⟩⟩
theorem c_stream {b : List UInt8} {Q : D → Mu → Prop} {X : List Nat → Mu → Prop} (h : Q (.strm b μ.length) (μ ++ [some [.int 0]])) : FnSpec G (k + 1) .stream [.bytes b] μ Q X := by
  obtain ⟨v1, v2, v3, v4, v5, v6⟩ := strm_vars
  refine fn_raw (nm := "_law_stream") (params := (defOf "_law_stream").1) (body := (defOf "_law_stream").2.1) (scope := (defOf "_law_stream").2.2) ["octets"] (lookup_mem (by kernel_rfl)) (by kernel_rfl) v2 rfl (bind_pure fun pm code doc vs hl => ?_) fun W A s env l a r e1 e2 e3 e4 => ?_
  · obtain ⟨v, rfl⟩ := List.length_eq_one_iff.mp hl
    kernel_rfl
  obtain ⟨la, lb, lsc, p2, p3, p4, p6, p7, p8, p9, p10, p11, p12, p13, q13, n1, p1, eb, hp, hd, hf⟩ := strm_form
  rw [eb]
  have hk : ∀ x, (fnFm env l).env.kindOf x = strmSc.lookup x := fun x => by show env.kindOf x = _; unfold Env.kindOf; rw [e1]
  have hvars : (fnFm env l).vars = [("octets" : Str), "read", "stream", "spot"] := by show varsOf env.scope.names = _; rw [e1]; exact v1
  have hcode : (fnFm env l).env.code = .ref G.C := by
    obtain ⟨o, pm, doc, h1, h2⟩ := e4
    exact r.wr.gok.strm o _ h1 h2
  have cell : ∀ x, strmSc.lookup x = some NameKind.cell → ∃ c, env.cells.lookup x = some c ∧ c ∈ (fnFm env l).own := fun x hx => by
    have h1 : (env.cells.lookup x).isSome = true := by rw [e3]; exact cells_have _ _ _ _ (.inl (PySem.mem_of_lookup hx))
    obtain ⟨c, hc⟩ := Option.isSome_iff_exists.mp h1
    exact ⟨c, hc, List.mem_filterMap.mpr ⟨x, by rw [e1]; exact mem_vars (PySem.mem_of_lookup hx), hc⟩⟩
  obtain ⟨c1, l1, o1⟩ := cell _ v3
  obtain ⟨c2, l2, o2⟩ := cell _ v4
  have l3 : ∀ x c, env.cells.lookup x = some c → (x = "octets" ∧ c = c1) ∨ (x = "spot" ∧ c = c2) := fun x c hx => by
    have hm := PySem.mem_of_lookup hx
    rw [e3] at hm
    rcases cells_names _ _ _ _ _ hm with q | q
    · cases q
    · rcases strm_cell x q with q | q <;> subst q
      · rw [l1] at hx; cases hx; exact .inl ⟨rfl, rfl⟩
      · rw [l2] at hx; cases hx; exact .inr ⟨rfl, rfl⟩
  have hr0 : initRho (varsOf (defOf "_law_stream").2.2.names) ["octets"] [.bytes b] = [some (.bytes b), none, none, none] := by
    show initRho (varsOf strmSc) _ _ = _; rw [v1]; kernel_rfl
  rw [hr0] at r
  have s1 : WG G (fnFm env l) k RF [some (.bytes b), none, none, none] μ (exec (.Assign [.Name "spot" p1] (.List [.Constant (.int 0) n1 p2] p3) p4) (fnFm env l).env) (fun fl ρ' μ' => fl = .next ∧ ρ' = [some (.bytes b), none, none, some (.mut μ.length)] ∧ μ' = μ ++ [some [.int 0]]) fun zz zz zz => False :=
    x_set (i := 3) (by rw [hvars]; rfl) (.inr ⟨(hk _).trans v4, rfl⟩) rfl (r_listM (es_cons rfl (r_int (es_nil ⟨Nat.le_of_ble_eq_true rfl, rfl, rfl, rfl, rfl⟩))))
  refine wpAny_execs_cons (wpAny_mono (s1 W A s a r) (fun fl s2 p => ?_) fun x s' p => by cases p with | mk _ _ _ _ _ _ _ _ _ q => exact q.elim)
  cases p with
  | mk W2 b2 ρ2 μ2 le2 r2 hb2 q2 =>
  obtain ⟨q1, q2, q3⟩ := q2
  subst q1; subst q2; subst q3
  cases hb2
  refine wpAny_execs_cons (wpAny_mono (x_read r2 hcode e2 ((hk _).trans v5) (by rw [hvars]; rfl) l1 l2 l3) (fun fl s3 p => ?_) fun zz zz p => p)
  obtain ⟨rfl, W3, f, le3, r3, ra⟩ := p
  refine wpAny_execs_cons (wpAny_mono (x_lam r3 hcode ((hk _).trans v6) (by rw [hvars]; rfl) hp hd hf) (fun fl s4 p => ?_) fun zz zz p => p)
  obtain ⟨rfl, W4, g, fd, le4, r4, og, hg⟩ := p
  refine wpAny_execs_cons (wpAny_mono (x_attr r4 (f := f) (by rw [hvars]; rfl) (by rw [hvars]; rfl) ((hk _).trans v5) ((hk _).trans v6) rfl rfl og hg) (fun fl s5 p => ?_) fun zz zz p => p)
  obtain ⟨rfl, d, m, r5, hg5, hm, hmr, od, hne⟩ := p
  refine wpAny_execs_cons (wpAny_Return_some (wpAny_Name (load_loc (i := 2) r5 (by rw [hvars]; rfl) (.inl ((hk _).trans v6)) (d := .obj g) rfl fun v hv => ?_) (by decide +kernel)))
  cases hv
  obtain ⟨W6, le6, w6, hv6⟩ := strm_end r5 hvars ((hk _).trans v3) ((hk _).trans v4) l1 l2 o1 o2 (b := b) (i := μ.length) rfl rfl (ra.mono le4.φ) og hg5 hm hmr od hne
  exact ⟨W6, _, _, ((le2.trans le3).trans le4).trans le6, w6, hv6, h⟩
end
section
variable {G : GG} {k n : Nat} {μ : Mu} {Q : D → Mu → Prop} {X : List Nat → Mu → Prop}
theorem go (OE : OddE G k) (O : Odd G k) {f : Fn} (nm : Str) (hm hz : List (Nat × Nat)) (pn : List Str) {v : VS} (ρ₀ : Rho) (hn : fnNames.lookup nm = some f) (hd : PySem.Challenge.pw_ik0060_01.theDef nm = some (defOf nm)) (hok : fnOk (defOf nm).2.2 pn = true) {ds ds' : List D} (hlen : ds'.length = pn.length)
    (hbind : BindOk G nm (defOf nm).1 (defOf nm).2.1 (defOf nm).2.2 pn ds ds' μ) (ht : trD G k nm hm hz = v) (hr : initRho (varsOf (scOf nm)) pn ds' = ρ₀) (h : v ρ₀ μ (endQ Q) fun m zz => X m) : callC G (k + 2) f ds μ Q X :=
  fn_go (params := (defOf nm).1) (body := (defOf nm).2.1) (scope := (defOf nm).2.2) OE O pn (lookup_mem hn) hd hok hlen hbind (by rw [← ht, ← hr] at h; exact h)
theorem len1 {α : Type} {vs : List α} (h : vs.length = 1) : ∃ a, vs = [a] := List.length_eq_one_iff.mp h
theorem len2 {α : Type} : ∀ {vs : List α}, vs.length = 2 → ∃ a b, vs = [a, b]
  | [a, b], _ => ⟨a, b, rfl⟩
theorem len3 {α : Type} : ∀ {vs : List α}, vs.length = 3 → ∃ a b c, vs = [a, b, c]
  | [a, b, c], _ => ⟨a, b, c, rfl⟩
theorem t_fspath : trD G k "fspath" [] [] = vSeq (vSet G k 1 (PE.bi Bi.type [PE.loc 0])) (vSeq (vIf G k (PE.bi Bi.issubclass [PE.loc 1, PE.tup [PE.ty "str", PE.ty "bytes"]]) (vSeq (vRet G k (PE.loc 0)) vSkip) vSkip) (vSeq (vExpr G k PE.bad) (vSeq (vSet G k 2 PE.bad) (vSeq (vIf G k (PE.cmp Cop.is (PE.loc 2) PE.none) (vSeq vBad vSkip) vSkip) (vSeq (vIf G k (PE.cmp Cop.isnot (PE.bi Bi.type [PE.loc 2]) (PE.bi Bi.type [PE.bad])) (vSeq (vExpr G k PE.bad) vSkip) vSkip) (vSeq (vSet G k 3 PE.bad) (vSeq (vIf G k (PE.bi Bi.issubclass [PE.bi Bi.type [PE.loc 3], PE.tup [PE.ty "str", PE.ty "bytes"]]) (vSeq (vRet G k (PE.loc 3)) vSkip) vSkip) (vSeq (vIf G k (PE.cmp Cop.gt (PE.bi Bi.len [PE.bad]) (PE.int 200)) (vSeq (vExpr G k PE.bad) vSkip) vSkip) (vSeq vBad vSkip))))))))) := by kernel_rfl
theorem t_get_sep : trD G k "_get_sep" [] [] = vSeq (vIf G k (PE.bi Bi.isinstance [PE.loc 0, PE.ty "bytes"]) (vSeq (vRet G k PE.bad) vSkip) (vSeq (vRet G k (PE.str [47])) vSkip)) vSkip := by kernel_rfl
theorem t_join : trD G k "join" [] [] = vSeq (vSet G k 0 (PE.call Fn.fspath [PE.loc 0])) (vSeq (vSet G k 2 (PE.call Fn.sep [PE.loc 0])) (vSeq (vSet G k 3 (PE.loc 0)) (vSeq (vTryNo (vSeq (vFor G k 4 false (PE.loc 1) (vSeq (vSet G k 4 (PE.call Fn.fspath [PE.loc 4])) (vSeq (vIf G k ((PE.me Me.startswith (PE.loc 4) [PE.loc 2]).or (PE.loc 3).not) (vSeq (vSet G k 3 (PE.loc 4)) vSkip) (vSeq (vIf G k (PE.me Me.endswith (PE.loc 3) [PE.loc 2]) (vSeq (vAug G k 3 Bop.add (PE.loc 4)) vSkip) (vSeq (vAug G k 3 Bop.add (PE.bin Bop.add (PE.loc 2) (PE.loc 4))) vSkip)) vSkip)) vSkip))) vSkip)) (vSeq (vRet G k (PE.loc 3)) vSkip)))) := by kernel_rfl
theorem t_basename : trD G k "basename" [] [] = vSeq (vSet G k 0 (PE.call Fn.fspath [PE.loc 0])) (vSeq (vSet G k 1 (PE.call Fn.sep [PE.loc 0])) (vSeq (vSet G k 2 (PE.bin Bop.add (PE.me Me.rfind (PE.loc 0) [PE.loc 1]) (PE.int 1))) (vSeq (vRet G k ((PE.loc 0).sfrom (PE.loc 2))) vSkip))) := by kernel_rfl
theorem t_dirname : trD G k "dirname" [] [] = vSeq (vSet G k 0 (PE.call Fn.fspath [PE.loc 0])) (vSeq (vSet G k 1 (PE.call Fn.sep [PE.loc 0])) (vSeq (vSet G k 2 (PE.bin Bop.add (PE.me Me.rfind (PE.loc 0) [PE.loc 1]) (PE.int 1))) (vSeq (vSet G k 3 ((PE.loc 0).sto (PE.loc 2))) (vSeq (vIf G k ((PE.loc 3).and (PE.cmp Cop.ne (PE.loc 3) (PE.bin Bop.mul (PE.loc 1) (PE.bi Bi.len [PE.loc 3])))) (vSeq (vSet G k 3 (PE.me Me.rstrip (PE.loc 3) [PE.loc 1])) vSkip) vSkip) (vSeq (vRet G k (PE.loc 3)) vSkip))))) := by kernel_rfl
theorem t_commonpath : trD G k "commonpath" [] [] = vSeq (vSet G k 0 (PE.tmap Fn.fspath (PE.loc 0))) (vSeq (vIf G k (PE.loc 0).not (vSeq (vRaise G k (PE.str [99, 111, 109, 109, 111, 110, 112, 97, 116, 104, 40, 41, 32, 97, 114, 103, 32, 105, 115, 32, 97, 110, 32, 101, 109, 112, 116, 121, 32, 115, 101, 113, 117, 101, 110, 99, 101])) vSkip) vSkip) (vSeq (vIf G k (PE.bi Bi.isinstance [(PE.loc 0).idx (PE.int 0), PE.ty "bytes"]) (vSeq (vSet G k 1 PE.bad) (vSeq (vSet G k 2 PE.bad) vSkip)) (vSeq (vSet G k 1 (PE.str [47])) (vSeq (vSet G k 2 (PE.str [46])) vSkip))) (vSeq (vTryNo (vSeq (vSet G k 3 (PE.lc false (PE.me Me.split (PE.loc 1) [PE.loc 2]) [none, none, some 1] 1 false (PE.loc 0) [])) (vSeq (vTryNo (vSeq (vOne G k 4 (PE.me Me.startswith (PE.loc 1) [PE.loc 2]) [none, none, some 1] 1 (PE.loc 0)) vSkip)) (vSeq (vSet G k 3 (PE.lc false (PE.lc false (PE.loc 1) [none, none, some 2] 1 false (PE.loc 1) [(PE.loc 1).and (PE.cmp Cop.ne (PE.loc 1) (PE.loc 2))]) [none, none, some 2] 1 false (PE.loc 3) [])) (vSeq (vSet G k 6 (PE.bi Bi.min [PE.loc 3])) (vSeq (vSet G k 7 (PE.bi Bi.max [PE.loc 3])) (vSeq (vSet G k 8 (PE.loc 6)) (vSeq (vEnum G k 9 5 (PE.loc 6) (vSeq (vIf G k (PE.cmp Cop.ne (PE.loc 5) ((PE.loc 7).idx (PE.loc 9))) (vSeq (vSet G k 8 ((PE.loc 6).sto (PE.loc 9))) (vSeq vBrk vSkip)) vSkip) vSkip)) (vSeq (vSet G k 10 ((PE.loc 4).ite (PE.loc 1) ((PE.loc 1).sto (PE.int 0)))) (vSeq (vRet G k (PE.bin Bop.add (PE.loc 10) (PE.me Me.join (PE.loc 1) [PE.loc 8]))) vSkip)))))))))) vSkip))) := by kernel_rfl
theorem t_heappop : trD G k "heappop" [] [] = vSeq (vSet G k 1 (PE.me Me.pop (PE.loc 0) [])) (vSeq (vIf G k (PE.loc 0) (vSeq (vSet G k 2 ((PE.loc 0).idx (PE.int 0))) (vSeq (vSetI G k (PE.loc 0) (PE.int 0) (PE.loc 1)) (vSeq (vExpr G k (PE.call Fn.up [PE.loc 0, PE.int 0])) (vSeq (vRet G k (PE.loc 2)) vSkip)))) vSkip) (vSeq (vRet G k (PE.loc 1)) vSkip)) := by kernel_rfl
theorem t_heapreplace : trD G k "heapreplace" [] [] = vSeq (vSet G k 2 ((PE.loc 0).idx (PE.int 0))) (vSeq (vSetI G k (PE.loc 0) (PE.int 0) (PE.loc 1)) (vSeq (vExpr G k (PE.call Fn.up [PE.loc 0, PE.int 0])) (vSeq (vRet G k (PE.loc 2)) vSkip))) := by kernel_rfl
theorem t_heapify : trD G k "heapify" [] [] = vSeq (vSet G k 1 (PE.bi Bi.len [PE.loc 0])) (vSeq (vRev G k 2 (PE.bin Bop.fdiv (PE.loc 1) (PE.int 2)) (vSeq (vExpr G k (PE.call Fn.up [PE.loc 0, PE.loc 2])) vSkip)) vSkip) := by kernel_rfl
theorem t_siftdown : trD G k "_siftdown" [] [] = vSeq (vSet G k 3 ((PE.loc 0).idx (PE.loc 2))) (vSeq (vWhile G k (PE.cmp Cop.gt (PE.loc 2) (PE.loc 1)) (vSeq (vSet G k 4 (PE.bin Bop.shr (PE.bin Bop.sub (PE.loc 2) (PE.int 1)) (PE.int 1))) (vSeq (vSet G k 5 ((PE.loc 0).idx (PE.loc 4))) (vSeq (vIf G k (PE.cmp Cop.lt (PE.loc 3) (PE.loc 5)) (vSeq (vSetI G k (PE.loc 0) (PE.loc 2) (PE.loc 5)) (vSeq (vSet G k 2 (PE.loc 4)) (vSeq vCont vSkip))) vSkip) (vSeq vBrk vSkip))))) (vSeq (vSetI G k (PE.loc 0) (PE.loc 2) (PE.loc 3)) vSkip)) := by kernel_rfl
theorem t_siftup : trD G k "_siftup" [] [] = vSeq (vSet G k 2 (PE.bi Bi.len [PE.loc 0])) (vSeq (vSet G k 3 (PE.loc 1)) (vSeq (vSet G k 4 ((PE.loc 0).idx (PE.loc 1))) (vSeq (vSet G k 5 (PE.bin Bop.add (PE.bin Bop.mul (PE.int 2) (PE.loc 1)) (PE.int 1))) (vSeq (vWhile G k (PE.cmp Cop.lt (PE.loc 5) (PE.loc 2)) (vSeq (vSet G k 6 (PE.bin Bop.add (PE.loc 5) (PE.int 1))) (vSeq (vIf G k ((PE.cmp Cop.lt (PE.loc 6) (PE.loc 2)).and (PE.cmp Cop.lt ((PE.loc 0).idx (PE.loc 5)) ((PE.loc 0).idx (PE.loc 6))).not) (vSeq (vSet G k 5 (PE.loc 6)) vSkip) vSkip) (vSeq (vSetI G k (PE.loc 0) (PE.loc 1) ((PE.loc 0).idx (PE.loc 5))) (vSeq (vSet G k 1 (PE.loc 5)) (vSeq (vSet G k 5 (PE.bin Bop.add (PE.bin Bop.mul (PE.int 2) (PE.loc 1)) (PE.int 1))) vSkip)))))) (vSeq (vSetI G k (PE.loc 0) (PE.loc 1) (PE.loc 4)) (vSeq (vExpr G k (PE.call Fn.down [PE.loc 0, PE.loc 3, PE.loc 1])) vSkip)))))) := by kernel_rfl
theorem t_read_uint1 : trD G k "read_uint1" [] [] = vSeq (vSet G k 1 (PE.me Me.read (PE.loc 0) [PE.int 1])) (vSeq (vIf G k (PE.loc 1) (vSeq (vRet G k ((PE.loc 1).idx (PE.int 0))) vSkip) vSkip) (vSeq (vRaise G k (PE.str [110, 111, 116, 32, 101, 110, 111, 117, 103, 104, 32, 100, 97, 116, 97, 32, 105, 110, 32, 115, 116, 114, 101, 97, 109, 32, 116, 111, 32, 114, 101, 97, 100, 32, 117, 105, 110, 116, 49])) vSkip)) := by kernel_rfl
theorem t_read_string1 : trD G k "read_string1" [] [] = vSeq (vSet G k 1 (PE.call Fn.uint1 [PE.loc 0])) (vSeq (vAssert G k (PE.cmp Cop.ge (PE.loc 1) (PE.int 0))) (vSeq (vSet G k 2 (PE.me Me.read (PE.loc 0) [PE.loc 1])) (vSeq (vIf G k (PE.cmp Cop.eq (PE.bi Bi.len [PE.loc 2]) (PE.loc 1)) (vSeq (vRet G k (PE.me Me.decode (PE.loc 2) [PE.str [108, 97, 116, 105, 110, 45, 49]])) vSkip) vSkip) (vSeq (vRaise G k (PE.bin Bop.mod (PE.str [101, 120, 112, 101, 99, 116, 101, 100, 32, 37, 100, 32, 98, 121, 116, 101, 115, 32, 105, 110, 32, 97, 32, 115, 116, 114, 105, 110, 103, 49, 44, 32, 98, 117, 116, 32, 111, 110, 108, 121, 32, 37, 100, 32, 114, 101, 109, 97, 105, 110]) (PE.tup [PE.loc 1, PE.bi Bi.len [PE.loc 2]]))) vSkip)))) := by kernel_rfl
theorem t_rows : trD G k "_law_rows" [(196, 2), (203, 1)] [(207, 6)] = vSeq (vSet G k 1 (PE.list false [PE.list true [PE.list false [PE.str [97], PE.str [98]], PE.list false [PE.str [97, 45]]], PE.list true [PE.list false [PE.str [97]], PE.list false [PE.str [97], PE.str [98]]], PE.list true [PE.list false [PE.str [46, 97]], PE.list false [PE.str [97]]], PE.list true []])) (vSeq (vFor G k 2 true (PE.bi Bi.min [PE.int 4, PE.bi Bi.len [PE.loc 0]]) (vSeq (vSet G k 3 (PE.bin Bop.add (PE.bin Bop.mul (PE.bin Bop.mod (PE.bi Bi.abs [PE.bi Bi.sum [(PE.loc 0).sstep (PE.loc 2) (PE.int 4)]]) (PE.int 99991)) (PE.int 977)) (PE.int 69))) (vSeq (vSet G k 4 (PE.bin Bop.mod (PE.loc 3) (PE.int 5))) (vSeq (vAug G k 3 Bop.fdiv (PE.int 5)) (vSeq (vSet G k 5 (PE.bin Bop.mod (PE.loc 3) (PE.int 4))) (vSeq (vAug G k 3 Bop.fdiv (PE.int 4)) (vSeq (vSet G k 6 (PE.list true [])) (vSeq (vFor G k 7 true (PE.loc 5) (vSeq (vExpr G k (PE.me Me.append (PE.loc 6) [(PE.tup [PE.str [97], PE.str [98], PE.str [97, 45], PE.str [46, 97], PE.str [233, 97], PE.str [46, 46, 46]]).idx (PE.bin Bop.mod (PE.loc 3) (PE.int 6))])) (vSeq (vAug G k 3 Bop.fdiv (PE.int 6)) vSkip))) (vSeq (vFrz 6 (vFor G k 8 true (PE.int 4) (vSeq (vIf G k ((PE.cmp Cop.isin (PE.loc 4) (PE.tup [PE.loc 8, PE.int 4])).and (PE.cmp Cop.notin (PE.loc 6) ((PE.loc 1).idx (PE.loc 8)))) (vSeq (vExpr G k (PE.me Me.append ((PE.loc 1).idx (PE.loc 8)) [PE.loc 6])) vSkip) vSkip) vSkip))) vSkip))))))))) (vSeq (vRet G k (PE.lc false (PE.bi Bi.sorted [PE.loc 1]) [none, none] 1 false (PE.loc 1) [])) vSkip)) := by kernel_rfl
theorem t_same : trD G k "_law_same" [] [] = vSeq (vSet G k 2 (PE.int 0)) (vSeq (vWhile G k ((PE.cmp Cop.lt (PE.loc 2) (PE.bi Bi.min [PE.bi Bi.len [PE.loc 0], PE.bi Bi.len [PE.loc 1]])).and (PE.cmp Cop.eq ((PE.loc 0).idx (PE.loc 2)) ((PE.loc 1).idx (PE.loc 2)))) (vSeq (vAug G k 2 Bop.add (PE.int 1)) vSkip)) (vSeq (vRet G k (PE.loc 2)) vSkip)) := by kernel_rfl
theorem t_union : trD G k "_law_union" [(220, 1)] [(223, 4)] = vSeq (vSet G k 1 (PE.list false [])) (vSeq (vFor G k 2 false (PE.loc 0) (vSeq (vSet G k 1 (PE.bin Bop.add (PE.loc 1) (PE.lc false (PE.loc 1) [none, none, some 1] 1 false (PE.loc 2) [PE.cmp Cop.notin (PE.loc 1) (PE.loc 2)]))) vSkip)) (vSeq (vSet G k 4 (PE.list true [])) (vSeq (vFor G k 3 false (PE.bi Bi.sorted [PE.loc 1]) (vSeq (vExpr G k (PE.me Me.append (PE.loc 4) [PE.tup [PE.loc 3, PE.bi Bi.sum [PE.lc false ((PE.tup [PE.int 130, PE.int 7, PE.int 64, PE.int 32]).idx (PE.loc 1)) [none, none, some 3, some 0] 1 true (PE.int 4) [PE.cmp Cop.isin (PE.loc 2) ((PE.loc 3).idx (PE.loc 1))]]]])) vSkip)) (vSeq (vFrz 4 (vRet G k (PE.loc 4))) vSkip)))) := by kernel_rfl
theorem t_written : trD G k "_law_written" [] [] = vSeq (vSet G k 1 (PE.list false [])) (vSeq (vSet G k 2 (PE.list false [])) (vSeq (vFor2 G k 3 4 (PE.loc 0) (vSeq (vSet G k 5 (PE.call Fn.same [PE.loc 2, PE.loc 3])) (vSeq (vSet G k 1 (PE.bin Bop.add (PE.loc 1) (PE.list false [PE.loc 4, PE.bin Bop.sub (PE.bi Bi.len [PE.loc 2]) (PE.loc 5), PE.bin Bop.sub (PE.bi Bi.len [PE.loc 3]) (PE.loc 5)]))) (vSeq (vFor G k 6 false ((PE.loc 3).sfrom (PE.loc 5)) (vSeq (vSet G k 1 (PE.bin Bop.add (PE.bin Bop.add (PE.loc 1) (PE.list false [PE.bi Bi.len [PE.loc 6]])) (PE.lc false (PE.bi Bi.ord [PE.loc 1]) [none, none] 1 false (PE.loc 6) []))) vSkip)) (vSeq (vSet G k 2 (PE.loc 3)) vSkip))))) (vSeq (vRet G k (PE.bi Bi.bytes [PE.loc 1])) vSkip))) := by kernel_rfl
theorem t_told : trD G k "_law_told" [(236, 1)] [(242, 3), (246, 3), (248, 3), (252, 3)] = vSeq (vSet G k 2 (PE.str [110, 111, 116, 32, 101, 110, 111, 117, 103, 104, 32, 100, 97, 116, 97, 32, 105, 110, 32, 115, 116, 114, 101, 97, 109, 32, 116, 111, 32, 114, 101, 97, 100, 32, 117, 105, 110, 116, 49])) (vSeq (vSet G k 3 (PE.list true [])) (vSeq (vSet G k 4 (PE.list false [])) (vSeq (vSet G k 5 (PE.int 0)) (vSeq (vFor2 G k 6 7 (PE.loc 0) (vSeq (vAug G k 5 Bop.add (PE.int 3)) (vSeq (vIf G k (PE.cmp Cop.gt (PE.loc 5) (PE.loc 1)) (vSeq (vFrz 3 (vRet G k (PE.tup [PE.loc 3, PE.loc 2]))) vSkip) vSkip) (vSeq (vFor G k 8 false ((PE.loc 6).sfrom (PE.call Fn.same [PE.loc 4, PE.loc 6])) (vSeq (vAug G k 5 Bop.add (PE.int 1)) (vSeq (vIf G k (PE.cmp Cop.gt (PE.loc 5) (PE.loc 1)) (vSeq (vFrz 3 (vRet G k (PE.tup [PE.loc 3, PE.loc 2]))) vSkip) vSkip) (vSeq (vIf G k (PE.cmp Cop.gt (PE.bin Bop.add (PE.loc 5) (PE.bi Bi.len [PE.loc 8])) (PE.loc 1)) (vSeq (vFrz 3 (vRet G k (PE.tup [PE.loc 3, PE.bin Bop.add (PE.bin Bop.add (PE.bin Bop.add (PE.bin Bop.add (PE.str [101, 120, 112, 101, 99, 116, 101, 100, 32]) (PE.bi Bi.str [PE.bi Bi.len [PE.loc 8]])) (PE.str [32, 98, 121, 116, 101, 115, 32, 105, 110, 32, 97, 32, 115, 116, 114, 105, 110, 103, 49, 44, 32, 98, 117, 116, 32, 111, 110, 108, 121, 32])) (PE.bi Bi.str [PE.bin Bop.sub (PE.loc 1) (PE.loc 5)])) (PE.str [32, 114, 101, 109, 97, 105, 110])]))) vSkip) vSkip) (vSeq (vAug G k 5 Bop.add (PE.bi Bi.len [PE.loc 8])) vSkip))))) (vSeq (vExpr G k (PE.me Me.append (PE.loc 3) [PE.tup [PE.loc 7, PE.bin Bop.add (PE.str [47]) (PE.me Me.join (PE.str [47]) [PE.loc 6])]])) (vSeq (vSet G k 4 (PE.loc 6)) vSkip)))))) (vSeq (vFrz 3 (vRet G k (PE.tup [PE.loc 3, PE.loc 2]))) vSkip))))) := by kernel_rfl
theorem t_record : trD G k "_law_record" [] [] = vSeq (vSet G k 2 (PE.call Fn.uint1 [PE.loc 0])) (vSeq (vSet G k 3 (PE.call Fn.uint1 [PE.loc 0])) (vSeq (vSet G k 4 (PE.call Fn.uint1 [PE.loc 0])) (vSeq (vFor G k 5 true (PE.loc 3) (vSeq (vSet G k 1 (PE.call Fn.dirname [PE.loc 1])) vSkip)) (vSeq (vFor G k 5 true (PE.loc 4) (vSeq (vSet G k 1 (PE.call Fn.join [PE.loc 1, PE.call Fn.string1 [PE.loc 0]])) vSkip)) (vSeq (vRet G k (PE.tup [PE.loc 2, PE.loc 1])) vSkip))))) := by kernel_rfl
theorem t_head : trD G k "_law_head" [] [] = vSeq (vTryNone (vSeq (vSet2 G k 3 2 (PE.call Fn.record [PE.loc 0, PE.loc 2])) vSkip)) (vSeq (vRet G k (PE.list false [PE.me Me.split (PE.loc 2) [PE.str [47]], PE.loc 1, PE.loc 3, PE.loc 2])) vSkip) := by kernel_rfl
theorem t_merged : trD G k "_law_merged" [(270, 1)] [] = vSeq (vSet G k 1 (PE.lc false (PE.call Fn.head [(PE.loc 2).idx (PE.loc 1), PE.loc 1, PE.str [47]]) [none, none, some 0] 1 true (PE.bi Bi.len [PE.loc 0]) [])) (vSeq (vSet G k 3 (PE.lc true (PE.loc 1) [none, none] 1 false (PE.loc 1) [PE.cmp Cop.isnot (PE.loc 1) PE.none])) (vSeq (vExpr G k (PE.call Fn.heapify [PE.loc 3])) (vSeq (vSet G k 4 (PE.list false [])) (vSeq (vSet G k 5 (PE.str [47])) (vSeq (vWhile G k (PE.loc 3) (vSeq (vSet G k 6 (((PE.loc 3).idx (PE.int 0)).idx (PE.int 3))) (vSeq (vSet G k 7 (PE.int 0)) (vSeq (vWhile G k ((PE.loc 3).and (PE.cmp Cop.eq (((PE.loc 3).idx (PE.int 0)).idx (PE.int 3)) (PE.loc 6))) (vSeq (vSet G k 8 (((PE.loc 3).idx (PE.int 0)).idx (PE.int 1))) (vSeq (vAug G k 7 Bop.add (((PE.loc 3).idx (PE.int 0)).idx (PE.int 2))) (vSeq (vSet G k 2 (PE.call Fn.head [(PE.loc 0).idx (PE.loc 8), PE.loc 8, PE.loc 6])) (vSeq (vIf G k (PE.cmp Cop.is (PE.loc 2) PE.none) (vSeq (vExpr G k (PE.call Fn.pop [PE.loc 3])) vSkip) (vSeq (vExpr G k (PE.call Fn.replace [PE.loc 3, PE.loc 2])) vSkip)) vSkip))))) (vSeq (vSet G k 9 (PE.call Fn.common [PE.list false [PE.loc 5, PE.loc 6]])) (vSeq (vSet G k 10 (PE.int 0)) (vSeq (vWhile G k (PE.cmp Cop.notin (PE.loc 5) (PE.tup [PE.loc 9, PE.str [47]])) (vSeq (vSet G k 5 (PE.call Fn.dirname [PE.loc 5])) (vSeq (vAug G k 10 Bop.add (PE.int 1)) vSkip))) (vSeq (vSet G k 11 (PE.loc 6)) (vSeq (vSet G k 12 (PE.list false [])) (vSeq (vWhile G k (PE.cmp Cop.notin (PE.loc 11) (PE.tup [PE.loc 9, PE.str [47]])) (vSeq (vSet G k 12 (PE.bin Bop.add (PE.list false [PE.call Fn.basename [PE.loc 11]]) (PE.loc 12))) (vSeq (vSet G k 11 (PE.call Fn.dirname [PE.loc 11])) vSkip))) (vSeq (vSet G k 4 (PE.bin Bop.add (PE.loc 4) (PE.list false [PE.loc 7, PE.loc 10, PE.bi Bi.len [PE.loc 12]]))) (vSeq (vFor G k 13 false (PE.loc 12) (vSeq (vSet G k 4 (PE.bin Bop.add (PE.bin Bop.add (PE.loc 4) (PE.list false [PE.bi Bi.len [PE.loc 13]])) (PE.lc false (PE.bi Bi.ord [PE.loc 1]) [none, none] 1 false (PE.loc 13) []))) vSkip)) (vSeq (vSet G k 5 (PE.loc 6)) vSkip))))))))))))) (vSeq (vRet G k (PE.bi Bi.bytes [PE.loc 4])) vSkip)))))) := by kernel_rfl
theorem t_paths : trD G k "_law_paths" [(302, 1)] [(311, 2)] = vSeq (vSet G k 1 (PE.call Fn.stream [PE.loc 0])) (vSeq (vSet G k 2 (PE.list true [])) (vSeq (vSet G k 3 (PE.str [47])) (vSeq (vSet G k 4 (PE.str [])) (vSeq (vTryStr (vSeq (vWhile G k (PE.bool true) (vSeq (vSet2 G k 5 3 (PE.call Fn.record [PE.loc 1, PE.loc 3])) (vSeq (vExpr G k (PE.me Me.append (PE.loc 2) [PE.tup [PE.loc 5, PE.loc 3]])) vSkip))) vSkip) 6 4) (vSeq (vFrz 2 (vRet G k (PE.tup [PE.loc 2, PE.loc 4]))) vSkip))))) := by kernel_rfl
theorem t_law : trD G k "law" [(315, 1)] [] = vSeq (vSet G k 1 (PE.call Fn.rows [PE.loc 0])) (vSeq (vSet G k 2 (PE.call Fn.union [PE.loc 1])) (vSeq (vSet G k 3 (PE.list true [])) (vSeq (vFor G k 4 true (PE.int 4) (vSeq (vSet G k 5 ((PE.tup [PE.int 130, PE.int 7, PE.int 64, PE.int 32]).idx (PE.loc 4))) (vSeq (vExpr G k (PE.me Me.append (PE.loc 3) [PE.call Fn.stream [PE.call Fn.written [PE.lc false (PE.tup [PE.loc 1, PE.loc 2]) [none, none, some 5] 1 false ((PE.loc 1).idx (PE.loc 4)) []]]])) vSkip))) (vSeq (vSet G k 6 (PE.call Fn.merged [PE.loc 3])) (vSeq (vIf G k (PE.cmp Cop.ne (PE.loc 6) (PE.call Fn.written [PE.loc 2])) (vSeq (vRet G k (PE.bool false)) vSkip) vSkip) (vSeq (vSet G k 7 (PE.bin Bop.mod (PE.bin Bop.add (PE.bi Bi.sum [PE.loc 0]) (PE.int 15)) (PE.bin Bop.add (PE.bi Bi.len [PE.loc 6]) (PE.int 1)))) (vSeq (vRet G k (PE.cmp Cop.eq (PE.call Fn.paths [(PE.loc 6).sto (PE.loc 7)]) (PE.call Fn.told [PE.loc 2, PE.loc 7]))) vSkip))))))) := by kernel_rfl
end
section
open Classical
variable {G : GG} {k n : Nat} {μ : Mu} {Q : D → Mu → Prop} {X : List Nat → Mu → Prop}
noncomputable abbrev Oks (G : GG) : Prop := ∀ k, OddE G k ∧ Odd G k
theorem c_fspath (H : Oks G) {p : List Nat} (h : Q (.str p) μ) : callC G (k + 2) .fspath [.str p] μ Q X := by
  refine go (H k).1 (H k).2 "fspath" [] [] ["path"] [some (.str p), none, none, none] (by kernel_rfl) (by kernel_rfl) (by kernel_rfl) rfl (bind_pure fun pm code doc vs hl => by obtain ⟨v, rfl⟩ := len1 hl; kernel_rfl) t_fspath (by kernel_rfl) ?_
  exact ⟨Nat.le_of_ble_eq_true rfl, rfl, fun zz => h, fun q => nomatch q⟩
theorem c_sep (H : Oks G) {p : List Nat} (h : Q (.str [47]) μ) : callC G (k + 2) .sep [.str p] μ Q X := by
  refine go (H k).1 (H k).2 "_get_sep" [] [] ["path"] [some (.str p)] (by kernel_rfl) (by kernel_rfl) (by kernel_rfl) rfl (bind_pure fun pm code doc vs hl => by obtain ⟨v, rfl⟩ := len1 hl; kernel_rfl) t_get_sep (by kernel_rfl) ?_
  exact ⟨p, rfl, fun q => (ff_tt q), fun zz => h⟩
theorem rfindN_lt (c : Nat) : ∀ (s : List Nat) (i : Nat), rfindN c s = some i → i < s.length
  | [], _, h => nosome h
  | a :: r, i, h => by
    unfold rfindN at h
    cases e : rfindN c r with
    | some j => rw [e] at h; cases h; exact Nat.succ_lt_succ (rfindN_lt c r j e)
    | none =>
      rw [e] at h
      by_cases q : a = c
      · rw [if_pos q] at h; cases h; exact Nat.succ_pos _
      · rw [if_neg q] at h; exact nosome h
theorem posOf_bnd (c : Nat) (s : List Nat) : 0 ≤ posOf (rfindN c s) + 1 ∧ posOf (rfindN c s) + 1 ≤ s.length := by
  cases h : rfindN c s with
  | none => exact ⟨Int.le_refl _, Int.natCast_nonneg _⟩
  | some i =>
    have := rfindN_lt c s i h
    show 0 ≤ (i : Int) + 1 ∧ (i : Int) + 1 ≤ s.length
    exact ar156 this
noncomputable def headN (p : List Nat) : List Nat := p.take (posOf (rfindN 47 p) + 1).toNat
noncomputable def dirN (p : List Nat) : List Nat := if headN p ≠ [] ∧ headN p ≠ List.replicate (headN p).length 47 then rstripN 47 (headN p) else headN p
noncomputable def baseN (p : List Nat) : List Nat := p.drop (posOf (rfindN 47 p) + 1).toNat
theorem c_basename (H : Oks G) {p : List Nat} (h : Q (.str (baseN p)) μ) : callC G (k + 4) .basename [.str p] μ Q X := by
  refine go (H _).1 (H _).2 "basename" [] [] ["p"] [some (.str p), none, none] (by kernel_rfl) (by kernel_rfl) (by kernel_rfl) rfl (bind_pure fun pm code doc vs hl => by obtain ⟨v, rfl⟩ := len1 hl; kernel_rfl) t_basename (by kernel_rfl) ?_
  exact c_fspath H (c_sep H ⟨⟨p, rfl⟩, 47, rfl, posOf_bnd 47 p, h⟩)
theorem c_dirname (H : Oks G) {p : List Nat} (hp : p.length ≤ 1000) (h : Q (.str (dirN p)) μ) : callC G (k + 4) .dirname [.str p] μ Q X := by
  refine go (H _).1 (H _).2 "dirname" [] [] ["p"] [some (.str p), none, none, none] (by kernel_rfl) (by kernel_rfl) (by kernel_rfl) rfl (bind_pure fun pm code doc vs hl => by obtain ⟨v, rfl⟩ := len1 hl; kernel_rfl) t_dirname (by kernel_rfl) ?_
  have hl : (headN p).length ≤ big := by unfold headN big; rw [List.length_take]; exact ar157 hp
  refine c_fspath H (c_sep H ⟨⟨p, rfl⟩, 47, rfl, posOf_bnd 47 p, ?_⟩)
  show (decide (headN p ≠ []) = true → _) ∧ (decide (headN p ≠ []) = false → _)
  refine ⟨fun hne => ?_, fun he => ⟨fun q => (ff_tt q), fun zz => ?_⟩⟩
  · refine ⟨47, rfl, ⟨Int.natCast_nonneg _, Int.ofNat_le.mpr hl⟩, ?_⟩
    show (decide (headN p ≠ List.replicate (headN p).length 47) = true → _) ∧ (decide (headN p ≠ List.replicate (headN p).length 47) = false → _)
    refine ⟨fun hc => ⟨⟨headN p, rfl⟩, 47, rfl, ?_⟩, fun hc => ?_⟩
    · rw [show dirN p = rstripN 47 (headN p) from if_pos ⟨of_decide_eq_true hne, of_decide_eq_true hc⟩] at h; exact h
    · rw [show dirN p = headN p from if_neg fun q => of_decide_eq_false hc q.2] at h; exact h
  · rw [show dirN p = headN p from if_neg fun q => of_decide_eq_false he q.1] at h; exact h
noncomputable def joinP (a b : List Nat) : List Nat := if List.isPrefixOf [47] b = true ∨ a = [] then b else if List.isSuffixOf [47] a = true then a ++ b else a ++ ([47] ++ b)
theorem join_bind {a b : List Nat} : BindOk G "join" (defOf "join").1 (defOf "join").2.1 (defOf "join").2.2 ["a", "p"] [.str a, .str b] [.str a, .tup [.str b]] μ := fun W A s vs pm code doc E w hv => by
  obtain ⟨v, u, rfl, h1, h2⟩ := Vs.two hv
  have e : bindArgs (docDef "join" (defOf "join").1 (defOf "join").2.1 (defOf "join").2.2 pm code doc) ⟨[v, u], []⟩ = (do let t ← newTuple [u]; pure ([(("a" : Str), v)] ++ [(("p" : Str), t)])) := by kernel_rfl
  rw [e]
  refine wpAny_bind (wpAny_newTuple ?_)
  have kp : ∀ b o, s.heap.get? b = some o → (s.heap.push (tupO #[u] 0)).get? b = some o := fun b o e => Heap.get?_push_of_some _ e
  have hn : s.heap.get? s.heap.objs.size = none := push_new (o := default)
  obtain ⟨w1, le⟩ := (w.keeps (t := s.toks) kp).freezeAt (none_of_keep w.ψ hn) (none_of_keep w.φ hn) (w.fsNone hn) (w.notMut hn) (Heap.get?_push_size _ rfl)
  exact wpAny_pure ⟨_, [v, .ref s.heap.objs.size], le, w1, .cons (h1.up le) (.cons (.tup (PMap.set_at _ _ _) (Nat.le_of_ble_eq_true rfl) (.cons (h2.up le) .nil)) .nil), rfl⟩
theorem c_join (H : Oks G) {a b : List Nat} (ha : a.length ≤ 1000) (hb : b.length ≤ 1000) (h : Q (.str (joinP a b)) μ) : callC G (k + 4) .join [.str a, .str b] μ Q X := by
  refine go (H _).1 (H _).2 "join" [] [] ["a", "p"] [some (.str a), some (.tup [.str b]), none, none, none] (by kernel_rfl) (by kernel_rfl) (by kernel_rfl) rfl join_bind t_join (by kernel_rfl) ?_
  refine c_fspath H (c_sep H (c_fspath H ?_))
  refine ⟨⟨b, rfl⟩, ?_⟩
  show (List.isPrefixOf [47] b = true → _) ∧ (List.isPrefixOf [47] b = false → _)
  refine ⟨fun h1 => ⟨fun zz => ?_, fun q => nomatch q⟩, fun h1 => ?_⟩
  · rw [show joinP a b = b from if_pos (.inl h1)] at h; exact h
  · show ((!decide (a ≠ [])) = true → _) ∧ ((!decide (a ≠ [])) = false → _)
    refine ⟨fun h2 => ?_, fun h2 => ⟨⟨a, rfl⟩, ?_⟩⟩
    · rw [Bool.not_eq_true', decide_eq_false_iff_not, Classical.not_not] at h2
      rw [show joinP a b = b from if_pos (.inr h2)] at h; exact h
    · rw [Bool.not_eq_false', decide_eq_true_eq] at h2
      have n1 : ¬ (List.isPrefixOf [47] b = true ∨ a = []) := fun q => q.elim (fun q => by rw [h1] at q; exact ff_tt q) h2
      show (List.isSuffixOf [47] a = true → _) ∧ (List.isSuffixOf [47] a = false → _)
      refine ⟨fun h3 => ⟨by unfold big; exact ar159 ha hb, ?_⟩, fun h3 => ⟨by show 1 + b.length ≤ big; unfold big; exact ar160 hb, by show a.length + ([47] ++ b).length ≤ big; rw [List.length_append]; show a.length + (1 + b.length) ≤ big; unfold big; exact ar161 ha hb, ?_⟩⟩
      · rw [show joinP a b = a ++ b from (if_neg n1).trans (if_pos h3)] at h; exact h
      · rw [show joinP a b = a ++ ([47] ++ b) from (if_neg n1).trans (if_neg (by rw [h3]; exact Bool.false_ne_true))] at h; exact h
end
section
open Classical
variable {G : GG} {k n : Nat} {μ : Mu} {Q : D → Mu → Prop} {X : List Nat → Mu → Prop}
noncomputable def plainW : List Nat := (Str.ofString "not enough data in stream to read uint1").cps.toList
structure At (μ : Mu) (b : List UInt8) (i p : Nat) : Prop where
  mu : μ[i]? = some (some [.int p])
  le : p ≤ b.length
  big : b.length ≤ big
theorem At.lt {b : List UInt8} {i p : Nat} (h : At μ b i p) : i < μ.length := (List.getElem?_eq_some_iff.mp h.mu).1
theorem At.go {b : List UInt8} {i p q : Nat} (h : At μ b i p) (hq : q ≤ b.length) : At (μ.set i (some [.int q])) b i q :=
  ⟨List.getElem?_set_self h.lt, hq, h.big⟩
theorem c_uint1 (H : Oks G) {b : List UInt8} {i p : Nat} (hp : At μ b i p) (h1 : ∀ y, b[p]? = some y → Q (.int y.toNat) (μ.set i (some [.int (p + 1 : Nat)])))
    (h2 : b[p]? = none → X plainW (μ.set i (some [.int p]))) : callC G (k + 4) .uint1 [.strm b i] μ Q X := by
  refine go (H _).1 (H _).2 "read_uint1" [] [] ["f"] [some (.strm b i), none] (by kernel_rfl) (by kernel_rfl) (by kernel_rfl) rfl (bind_pure fun pm code doc vs hl => by obtain ⟨v, rfl⟩ := len1 hl; kernel_rfl) t_read_uint1 (by kernel_rfl) ?_
  refine ⟨⟨Nat.le_add_left 2 _, b, i, rfl⟩, b, i, 1, rfl, rfl, p, hp.mu, hp.le, by decide, by decide, hp.big, ?_⟩
  generalize hs : (b.drop p).take (Int.toNat 1) = s
  replace hs : (b.drop p).take 1 = s := hs
  show (decide (s ≠ []) = true → _) ∧ (decide (s ≠ []) = false → _)
  cases e : b[p]? with
  | some y =>
    rw [List.take_one, List.head?_drop, e] at hs
    cases hs
    have hl := (List.getElem?_eq_some_iff.mp e).1
    refine ⟨fun zz => ⟨by decide, ?_⟩, fun q => absurd (List.cons_ne_nil y []) (of_decide_eq_false q)⟩
    have e3 : min b.length (p + Int.toNat 1) = p + 1 := by show min b.length (p + 1) = p + 1; exact ar162 hl
    rw [e3]; exact h1 y e
  | none =>
    have hl : b.length ≤ p := List.getElem?_eq_none_iff.mp e
    rw [List.drop_eq_nil_of_le hl] at hs
    cases hs
    refine ⟨fun q => absurd rfl (of_decide_eq_true q), fun zz => ?_⟩
    have e3 : min b.length (p + Int.toNat 1) = p := by have := hp.le; show min b.length (p + 1) = p; exact ar163 hl this
    rw [e3]; exact h2 e
noncomputable def wordsW (x y : Nat) : List Nat := wordsD (x : Nat) (y : Nat)
theorem c_string1 (H : Oks G) {b : List UInt8} {i p : Nat} (hp : At μ b i p) (h0 : b[p]? = none → X plainW (μ.set i (some [.int p])))
    (h1 : ∀ y, b[p]? = some y → y.toNat ≠ 0 ∧ (((b.drop (p + 1)).take y.toNat).length = y.toNat → Q (.str (((b.drop (p + 1)).take y.toNat).map (·.toNat))) (μ.set i (some [.int (p + 1 + y.toNat : Nat)]))) ∧
      (((b.drop (p + 1)).take y.toNat).length ≠ y.toNat → X (wordsW y.toNat ((b.drop (p + 1)).take y.toNat).length) (μ.set i (some [.int b.length])))) : callC G (k + 6) .string1 [.strm b i] μ Q X := by
  refine go (H _).1 (H _).2 "read_string1" [] [] ["f"] [some (.strm b i), none, none] (by kernel_rfl) (by kernel_rfl) (by kernel_rfl) rfl (bind_pure fun pm code doc vs hl => by obtain ⟨v, rfl⟩ := len1 hl; kernel_rfl) t_read_string1 (by kernel_rfl) ?_
  refine c_uint1 H hp (fun y e => ?_) h0
  obtain ⟨y0, y1, y2⟩ := h1 y e
  have hl := (List.getElem?_eq_some_iff.mp e).1
  have hy := y.toNat_lt
  refine ⟨?_, ?_⟩
  · exact decide_eq_true (Int.natCast_nonneg _)
  refine ⟨⟨Nat.le_add_left 2 _, b, i, rfl⟩, b, i, y.toNat, rfl, rfl, p + 1, (hp.go hl).mu, hl, Int.natCast_nonneg _, by show (y.toNat : Int) ≤ 16777216; lia, hp.big, ?_⟩
  rw [List.set_set]
  generalize hs : ((b.drop (p + 1)).take y.toNat) = s at y1 y2
  have es : ((b.drop (p + 1)).take (y.toNat : Int).toNat) = s := hs
  rw [es]
  have hsl : s.length ≤ y.toNat := by rw [← hs]; exact List.length_take_le _ _
  have hm : s.length = y.toNat → min b.length (p + 1 + (y.toNat : Int).toNat) = p + 1 + y.toNat := fun q => by
    rw [← hs, List.length_take, List.length_drop] at q
    show min b.length (p + 1 + y.toNat) = p + 1 + y.toNat
    exact ar164 hl q
  have hm2 : s.length ≠ y.toNat → min b.length (p + 1 + (y.toNat : Int).toNat) = b.length := fun q => by
    rw [← hs, List.length_take, List.length_drop] at q
    show min b.length (p + 1 + y.toNat) = b.length
    exact ar165 q
  show (decide ((s.length : Int) = (y.toNat : Int)) = true → _) ∧ (decide ((s.length : Int) = (y.toNat : Int)) = false → _)
  refine ⟨fun q => ?_, fun q => ?_⟩
  · have q := Int.ofNat.inj (of_decide_eq_true q)
    refine ⟨⟨s, rfl⟩, rfl, ⟨fun z => y0 (by rw [← q, z]; rfl), by lia⟩, ?_⟩
    rw [hm q]; exact y1 q
  · have q : s.length ≠ y.toNat := fun z => of_decide_eq_false q (congrArg Int.ofNat z)
    refine ⟨Nat.le_of_ble_eq_true rfl, y.toNat, s.length, rfl, ⟨rfl, ⟨Int.natCast_nonneg _, by omega⟩, Int.natCast_nonneg _, by omega⟩, ?_⟩
    rw [hm2 q]; exact y2 q
end
section
open Classical
noncomputable abbrev Name := List Nat
structure GoodN (g : Name) : Prop where
  ne : g ≠ []
  dot : g ≠ [46]
  free : 47 ∉ g
  len : g.length ≤ 3
  small : ∀ c ∈ g, c < 256
structure GoodP (ns : List Name) : Prop where
  len : ns.length ≤ 3
  all : ∀ g ∈ ns, GoodN g
noncomputable abbrev pth (ns : List Name) : List Nat := 47 :: joinN [47] ns
theorem joinN_snoc : ∀ {a : List Name} (g : Name), a ≠ [] → joinN [47] (a ++ [g]) = joinN [47] a ++ 47 :: g
  | [], _, h => absurd rfl h
  | [x], g, _ => by show x ++ [47] ++ g = x ++ 47 :: g; rw [List.append_assoc]; rfl
  | x :: y :: r, g, _ => by
    show x ++ [47] ++ joinN [47] ((y :: r) ++ [g]) = (x ++ [47] ++ joinN [47] (y :: r)) ++ 47 :: g
    rw [joinN_snoc g (List.cons_ne_nil y r), List.append_assoc (x ++ [47])]
theorem pth_snoc (a : List Name) (g : Name) : (a = [] ∧ pth (a ++ [g]) = 47 :: g) ∨ (a ≠ [] ∧ pth (a ++ [g]) = pth a ++ 47 :: g) := by
  by_cases h : a = []
  · subst h; exact .inl ⟨rfl, rfl⟩
  · exact .inr ⟨h, by unfold pth; rw [joinN_snoc g h]; rfl⟩
theorem rfindN_free {c : Nat} : ∀ {s : List Nat}, c ∉ s → rfindN c s = none
  | [], _ => rfl
  | a :: r, h => by
    unfold rfindN
    rw [rfindN_free fun q => h (.tail _ q)]
    exact if_neg fun (q : a = c) => h (q ▸ .head _)
theorem rfindN_app {c : Nat} {g : List Nat} (h : c ∉ g) : ∀ s : List Nat, rfindN c (s ++ c :: g) = some s.length
  | [] => by show rfindN c (c :: g) = some 0; unfold rfindN; rw [rfindN_free h]; exact if_pos rfl
  | a :: r => by show rfindN c (a :: (r ++ c :: g)) = _; unfold rfindN; rw [rfindN_app h r]; rfl
theorem endFree {a : List Name} (ha : ∀ g ∈ a, GoodN g) (h : a ≠ []) : ∃ s x, pth a = s ++ [x] ∧ x ≠ 47 := by
  obtain ⟨b, g, rfl⟩ : ∃ b g, a = b ++ [g] := ⟨a.dropLast, a.getLast h, (List.dropLast_concat_getLast h).symm⟩
  have hg := ha g (List.mem_append_right _ (.head _))
  obtain ⟨t, x, rfl⟩ : ∃ t x, g = t ++ [x] := ⟨g.dropLast, g.getLast hg.ne, (List.dropLast_concat_getLast hg.ne).symm⟩
  have hx : x ≠ 47 := fun q => hg.free (q ▸ List.mem_append_right _ (.head _))
  rcases pth_snoc b (t ++ [x]) with ⟨_, e⟩ | ⟨_, e⟩
  · exact ⟨47 :: t, x, by rw [e]; rfl, hx⟩
  · exact ⟨pth b ++ 47 :: t, x, by rw [e, List.append_assoc]; rfl, hx⟩
theorem rstripN_end {s : List Nat} {x : Nat} (h : x ≠ 47) : rstripN 47 (s ++ [x] ++ [47]) = s ++ [x] := by
  unfold rstripN
  rw [List.reverse_append, List.reverse_append]
  show (List.dropWhile (· == 47) (47 :: x :: s.reverse)).reverse = _
  rw [List.dropWhile_cons, if_pos (by rfl), List.dropWhile_cons, if_neg (by intro q; exact h (eq_of_beq q)), List.reverse_cons, List.reverse_reverse]
theorem split_key {ns : List Name} (h : ∀ g ∈ ns, 47 ∉ g) : splitN 47 (pth ns) = [] :: (if ns = [] then [[]] else ns) := by
  by_cases e : ns = []
  · subst e; rfl
  · rw [if_neg e]
    exact (show splitN 47 (pth ns) = [] :: splitN 47 (joinN [47] ns) from rfl).trans (by rw [splitN_join e h])
theorem headN_at {s g : List Nat} (h : 47 ∉ g) : headN (s ++ 47 :: g) = s ++ [47] ∧ baseN (s ++ 47 :: g) = g := by
  unfold headN baseN
  rw [rfindN_app h]
  have e : (posOf (some s.length) + 1).toNat = s.length + 1 := rfl
  have e2 : s ++ 47 :: g = (s ++ [47]) ++ g := by rw [List.append_assoc]; rfl
  have e3 : s.length + 1 = (s ++ [47]).length := by rw [List.length_append]; rfl
  rw [e, e2, e3]
  exact ⟨List.take_left, List.drop_left⟩
theorem base_pth {a : List Name} {g : Name} (h : GoodN g) : baseN (pth (a ++ [g])) = g := by
  rcases pth_snoc a g with ⟨_, e⟩ | ⟨_, e⟩
  · rw [e]; exact (headN_at (s := []) h.free).2
  · rw [e]; exact (headN_at h.free).2
theorem dir_pth {a : List Name} {g : Name} (ha : ∀ g ∈ a, GoodN g) (h : GoodN g) : dirN (pth (a ++ [g])) = pth a := by
  rcases pth_snoc a g with ⟨rfl, e⟩ | ⟨hne, e⟩
  · rw [e]
    have := (headN_at (s := []) h.free).1
    unfold dirN
    rw [show (47 :: g) = [] ++ 47 :: g from rfl, this]
    exact if_neg fun q => q.2 rfl
  · rw [e]
    have := (headN_at (s := pth a) h.free).1
    obtain ⟨s, x, e1, hx⟩ := endFree ha hne
    unfold dirN
    rw [this, e1, if_pos]
    · exact rstripN_end hx
    refine ⟨fun q => (List.append_ne_nil_of_right_ne_nil _ (List.cons_ne_nil _ _)) q, fun q => hx ?_⟩
    have : x ∈ List.replicate (s ++ [x] ++ [47]).length 47 := by rw [← q]; exact List.mem_append_left _ (List.mem_append_right _ (.head _))
    exact List.eq_of_mem_replicate this
theorem join_pth {a : List Name} {g : Name} (ha : ∀ g ∈ a, GoodN g) (h : GoodN g) : joinP (pth a) g = pth (a ++ [g]) := by
  have h1 : ¬ (List.isPrefixOf [47] g = true ∨ pth a = []) := fun q => q.elim (fun q => by
    obtain ⟨t, e⟩ := List.isPrefixOf_iff_prefix.mp q
    exact h.free (e ▸ .head _)) fun q => nomatch q
  unfold joinP
  rw [if_neg h1]
  rcases pth_snoc a g with ⟨rfl, e⟩ | ⟨hne, e⟩
  · rw [e]; exact if_pos rfl
  · obtain ⟨s, x, e1, hx⟩ := endFree ha hne
    rw [e, if_neg]
    · rfl
    · rw [e1]
      intro q
      obtain ⟨t, e⟩ := List.isSuffixOf_iff_suffix.mp q
      exact hx (List.singleton_inj.mp (List.append_inj' e rfl).2).symm
theorem pth_inj {a b : List Name} (ha : ∀ g ∈ a, GoodN g) (hb : ∀ g ∈ b, GoodN g) (h : pth a = pth b) : a = b := by
  have e := split_key fun g m => (ha g m).free
  rw [h, split_key fun g m => (hb g m).free] at e
  have e := List.tail_eq_of_cons_eq e
  by_cases h1 : a = [] <;> by_cases h2 : b = []
  · rw [h1, h2]
  · rw [if_neg h2, if_pos h1] at e
    exact absurd rfl (hb [] (e ▸ .head _)).ne
  · rw [if_neg h1, if_pos h2] at e
    exact absurd rfl (ha [] (e ▸ .head _)).ne
  · rw [if_neg h1, if_neg h2] at e; exact e.symm
theorem pth_len {a : List Name} (h : GoodP a) : (pth a).length ≤ 12 := by
  obtain ⟨h1, h2⟩ := h
  match a, h1, h2 with
  | [], _, _ => decide
  | [x], _, h => have := (h x (.head _)).len; show (joinN [47] [x]).length + 1 ≤ 12; show x.length + 1 ≤ 12; exact ar132 this
  | [x, y], _, h => have := (h x (.head _)).len; have := (h y (.tail _ (.head _))).len; show (x ++ [47] ++ y).length + 1 ≤ 12; rw [List.length_append, List.length_append]; show x.length + 1 + y.length + 1 ≤ 12; exact ar133 ‹_› this
  | [x, y, z], _, h =>
    have := (h x (.head _)).len; have := (h y (.tail _ (.head _))).len; have := (h z (.tail _ (.tail _ (.head _)))).len
    show (x ++ [47] ++ (y ++ [47] ++ z)).length + 1 ≤ 12
    rw [List.length_append, List.length_append, List.length_append, List.length_append]; show x.length + 1 + (y.length + 1 + z.length) + 1 ≤ 12; exact ar134 ‹_› ‹_› this
end
section
open Classical
noncomputable def sameN : List Name → List Name → Nat
  | a :: r, b :: q => if a = b then sameN r q + 1 else 0
  | _, _ => 0
noncomputable def bts (l : List Nat) : List UInt8 := l.map UInt8.ofNat
noncomputable def encN : List Name → List Nat
  | [] => []
  | g :: r => g.length :: g ++ encN r
noncomputable def encR (last ns : List Name) (m : Nat) : List Nat := m :: (last.length - sameN last ns) :: (ns.length - sameN last ns) :: encN (ns.drop (sameN last ns))
noncomputable def encs : List Name → List (List Name × Nat) → List Nat
  | _, [] => []
  | last, r :: q => encR last r.1 r.2 ++ encs r.1 q
noncomputable def cutN : List Name → Nat → Option (List Nat)
  | [], _ => none
  | _ :: _, 0 => some plainW
  | g :: r, n + 1 => if n < g.length then some (wordsW g.length n) else cutN r (n - g.length)
noncomputable def recCut (last ns : List Name) : Nat → Option (List Nat)
  | n + 3 => cutN (ns.drop (sameN last ns)) n
  | _ => some plainW
noncomputable def toldF : List Name → List (List Name × Nat) → Nat → List D × List Nat
  | _, [], _ => ([], plainW)
  | last, r :: q, n => match recCut last r.1 n with
    | some w => ([], w)
    | none => (.tup [.int r.2, .str (pth r.1)] :: (toldF r.1 q (n - (encR last r.1 r.2).length)).1, (toldF r.1 q (n - (encR last r.1 r.2).length)).2)
theorem sameN_le : ∀ a b : List Name, sameN a b ≤ a.length ∧ sameN a b ≤ b.length
  | [], _ => ⟨Nat.le_refl _, Nat.zero_le _⟩
  | _ :: _, [] => ⟨Nat.zero_le _, Nat.le_refl _⟩
  | a :: r, b :: q => by
    unfold sameN
    by_cases e : a = b
    · rw [if_pos e]; exact ⟨Nat.succ_le_succ (sameN_le r q).1, Nat.succ_le_succ (sameN_le r q).2⟩
    · rw [if_neg e]; exact ⟨Nat.zero_le _, Nat.zero_le _⟩
theorem sameN_take : ∀ a b : List Name, a.take (sameN a b) = b.take (sameN a b)
  | [], _ => rfl
  | _ :: _, [] => rfl
  | a :: r, b :: q => by
    unfold sameN
    by_cases e : a = b
    · rw [if_pos e, List.take_succ_cons, List.take_succ_cons, e, sameN_take r q]
    · rw [if_neg e]; rfl
theorem cutN_len : ∀ (gs : List Name) (n : Nat), (encN gs).length ≤ n → cutN gs n = none
  | [], _, _ => rfl
  | g :: r, 0, h => absurd h (Nat.not_succ_le_zero _)
  | g :: r, n + 1, h => by
    have h : (g ++ encN r).length + 1 ≤ n + 1 := h
    rw [List.length_append] at h
    unfold cutN
    rw [if_neg (by exact ar135 h)]
    exact cutN_len r _ (by exact ar136 h)
theorem recCut_len {last ns : List Name} {m n : Nat} (h : (encR last ns m).length ≤ n) : recCut last ns n = none := by
  have h : (encN (ns.drop (sameN last ns))).length + 3 ≤ n := h
  obtain ⟨j, rfl⟩ : ∃ j, n = j + 3 := ⟨n - 3, by exact ar137 h⟩
  exact cutN_len _ _ (by exact ar138 h)
noncomputable def Rem (b : List UInt8) (p : Nat) (e : List Nat) (n : Nat) : Prop := b.drop p = (bts e).take n
theorem Rem.none {b : List UInt8} {p : Nat} {e : List Nat} (h : Rem b p e 0) : b[p]? = none := by
  rw [← List.head?_drop, h]; rfl
theorem Rem.cons {b : List UInt8} {p x n : Nat} {e : List Nat} (h : Rem b p (x :: e) (n + 1)) : b[p]? = some (UInt8.ofNat x) ∧ Rem b (p + 1) e n := by
  refine ⟨by rw [← List.head?_drop, h]; rfl, ?_⟩
  unfold Rem
  rw [← List.drop_drop, h]; rfl
theorem Rem.app {b : List UInt8} {p n : Nat} {g e : List Nat} (h : Rem b p (g ++ e) n) : ((b.drop p).take g.length).length = min g.length n ∧ (g.length ≤ n → (b.drop p).take g.length = bts g ∧ Rem b (p + g.length) e (n - g.length)) := by
  have hl : (bts g).length = g.length := List.length_map _
  have ha : bts (g ++ e) = bts g ++ bts e := List.map_append
  have e1 : (b.drop p).take g.length = (bts g).take n := by
    rw [h, ha, List.take_take, Nat.min_comm, ← List.take_take, ← hl, List.take_left]
  refine ⟨?_, fun q => ⟨?_, ?_⟩⟩
  · rw [e1, List.length_take, hl, Nat.min_comm]
  · rw [e1, List.take_of_length_le (by rw [hl]; exact q)]
  · unfold Rem
    rw [← List.drop_drop, h, List.drop_take, ha, ← hl, List.drop_left]
theorem bts_nat {g : List Nat} (h : ∀ c ∈ g, c < 256) : (bts g).map (·.toNat) = g := by
  unfold bts
  rw [List.map_map]
  exact (List.map_congr_left fun c m => Nat.mod_eq_of_lt (h c m)).trans (List.map_id g)
end
section
open Classical
variable {G : GG} {k n : Nat} {μ : Mu} {Q : D → Mu → Prop} {X : List Nat → Mu → Prop}
noncomputable abbrev rhoR (b : List UInt8) (i : Nat) (a : List Name) (x y z w : Option D) : Rho := [some (.strm b i), some (.str (pth a)), x, y, z, w]
theorem ups (H : Oks G) {b : List UInt8} {i : Nat} {x y z : Option D} {Q : FQ} {X : MX} : ∀ (ds : List D) (a : List Name) (w : Option D), GoodP a → ds.length ≤ a.length → (∀ w, Q .next (rhoR b i (a.take (a.length - ds.length)) x y z w) μ) →
    forC (step1 5 (vSeq (vSet G (k + 6) 1 (PE.call Fn.dirname [PE.loc 1])) vSkip) X) ds (rhoR b i a x y z w) μ Q
  | [], a, w, _, _, h => by
    have := h w
    rw [show a.take (a.length - ([] : List D).length) = a from List.take_length] at this
    exact this
  | d :: r, a, w, ga, hl, h => by
    obtain ⟨a', g, rfl⟩ : ∃ a' g, a = a' ++ [g] := by
      have hne : a ≠ [] := fun q => by rw [q] at hl; exact Nat.not_succ_le_zero _ hl
      exact ⟨a.dropLast, a.getLast hne, (List.dropLast_concat_getLast hne).symm⟩
    have hl2 : (a' ++ [g]).length = a'.length + 1 := List.length_append
    have ga' : GoodP a' := ⟨by have := ga.len; exact ar166 hl2 this, fun g m => ga.all g (List.mem_append_left _ m)⟩
    refine c_dirname H (by have := pth_len ga; exact ar167 this) ?_
    rw [dir_pth ga'.all (ga.all g (List.mem_append_right _ (.head _)))]
    refine ups H r a' (some d) ga' (by rw [hl2] at hl; exact Nat.le_of_succ_le_succ hl) fun w => ?_
    have := h w
    rw [hl2, show a'.length + 1 - (d :: r).length = a'.length - r.length from Nat.add_sub_add_right _ 1 _, List.take_append_of_le_length (Nat.sub_le _ _)] at this
    exact this
theorem downs (H : Oks G) {b : List UInt8} {i : Nat} {x y z : Option D} {Q : FQ} {X : MX} {e : List Nat} : ∀ (gs : List Name) (ds : List D) (a : List Name) (w : Option D) (p n : Nat) (μ : Mu), ds.length = gs.length → GoodP (a ++ gs) → At μ b i p → Rem b p (encN gs ++ e) n →
    (cutN gs n = none → ∀ w, Q .next (rhoR b i (a ++ gs) x y z w) (μ.set i (some [.int (p + (encN gs).length : Nat)]))) → (∀ m q ρ, cutN gs n = some m → q ≤ b.length → X m ρ (μ.set i (some [.int (q : Nat)]))) →
    forC (step1 5 (vSeq (vSet G (k + 6) 1 (PE.call Fn.join [PE.loc 1, PE.call Fn.string1 [PE.loc 0]])) vSkip) X) ds (rhoR b i a x y z w) μ Q
  | [], [], a, w, p, n, μ, _, _, hp, _, h1, _ => by
    have := h1 rfl w
    rw [List.append_nil, show p + (encN []).length = p from rfl, show μ.set i (some [.int (p : Nat)]) = μ from by rw [← List.getElem_of_getElem? hp.mu |>.2]; exact List.set_getElem_self _] at this
    exact this
  | g :: r, d :: ds, a, w, p, n, μ, hl, ga, hp, hr, h1, h2 => by
    have gg := ga.all g (List.mem_append_right _ (.head _))
    have hg0 : 0 < g.length := List.length_pos_iff.mpr gg.ne
    have gle := gg.len
    have hpl := pth_len ga
    have e0 : (UInt8.ofNat g.length).toNat = g.length := Nat.mod_eq_of_lt (by show g.length < 256; exact ar168 gle)
    have ea : a ++ g :: r = (a ++ [g]) ++ r := by rw [List.append_assoc]; rfl
    cases n with
    | zero =>
      refine c_string1 H hp (fun zz => h2 plainW p _ rfl hp.le) fun y q => ?_
      rw [hr.none] at q; cases q
    | succ n =>
      obtain ⟨b1, b2⟩ := Rem.cons (x := g.length) (e := g ++ encN r ++ e) hr
      refine c_string1 H hp (fun q => by rw [b1] at q; cases q) fun y q => ?_
      rw [b1] at q
      obtain rfl := Option.some.inj q
      rw [e0]
      rw [List.append_assoc] at b2
      obtain ⟨b3, b4⟩ := b2.app
      have hpl1 := (List.getElem?_eq_some_iff.mp b1).1
      refine ⟨by exact Nat.ne_of_gt ‹_›, fun q => ?_, fun q => ?_⟩
      · rw [b3] at q
        have hle : g.length ≤ n := by exact ar169 q
        obtain ⟨b5, b6⟩ := b4 hle
        rw [b5, bts_nat gg.small]
        have ga' : GoodP (a ++ [g]) := ⟨by have := ga.len; rw [ea, List.length_append] at this; exact ar170 this, fun g m => ga.all g (by rw [ea]; exact List.mem_append_left _ m)⟩
        have hpa : (pth a).length ≤ 12 := pth_len ⟨by have := ga.len; rw [List.length_append] at this; exact ar170 this, fun g m => ga.all g (List.mem_append_left _ m)⟩
        refine c_join H (by exact ar167 hpa) (by exact ar171 gle) ?_
        rw [join_pth (fun g m => ga.all g (List.mem_append_left _ m)) gg]
        have hcut : cutN (g :: r) (n + 1) = cutN r (n - g.length) := if_neg (by exact Nat.not_lt.mpr ‹_›)
        have hple : p + 1 + g.length ≤ b.length := by
          have : ((b.drop (p + 1)).take g.length).length = g.length := by rw [b3]; exact ar172 hle
          rw [List.length_take, List.length_drop] at this; exact ar173 hpl1 this
        refine downs H r ds (a ++ [g]) (some d) (p + 1 + g.length) (n - g.length) _ (Nat.succ.inj hl) (by rw [← ea]; exact ga) (hp.go hple) b6 (fun q w => ?_) fun m q ρ c hq => ?_
        · rw [List.set_set, ← ea]
          have := h1 (hcut.trans q) w
          rw [show p + (encN (g :: r)).length = p + 1 + g.length + (encN r).length from by show p + ((g ++ encN r).length + 1) = _; rw [List.length_append]; simp +arith] at this
          exact this
        · rw [List.set_set]
          exact h2 m q ρ (hcut.trans c) hq
      · rw [b3] at q ⊢
        have hlt : n < g.length := by exact ar174 q
        rw [show min g.length n = n by lia]
        exact h2 _ b.length _ (if_pos hlt) (Nat.le_refl _)
end
section
open Classical
variable {G : GG} {k n : Nat} {μ : Mu} {Q : D → Mu → Prop} {X : List Nat → Mu → Prop}
theorem ofNat_nat {x : Nat} (h : x < 256) : ((UInt8.ofNat x).toNat : Nat) = x := Nat.mod_eq_of_lt h
theorem c_octet (H : Oks G) {b : List UInt8} {i p x n : Nat} {e : List Nat} (hx : x < 256) (hp : At μ b i p) (hr : Rem b p (x :: e) n)
    (h1 : ∀ m, n = m + 1 → At (μ.set i (some [.int (p + 1 : Nat)])) b i (p + 1) → Rem b (p + 1) e m → Q (.int (x : Nat)) (μ.set i (some [.int (p + 1 : Nat)]))) (h2 : n = 0 → X plainW (μ.set i (some [.int p]))) : callC G (k + 4) .uint1 [.strm b i] μ Q X := by
  cases n with
  | zero => exact c_uint1 H hp (fun y q => by rw [hr.none] at q; cases q) fun zz => h2 rfl
  | succ n =>
    obtain ⟨b1, b2⟩ := hr.cons
    refine c_uint1 H hp (fun y q => ?_) fun q => by rw [b1] at q; cases q
    rw [b1] at q
    obtain rfl := Option.some.inj q
    rw [ofNat_nat hx]
    exact h1 n rfl (hp.go (List.getElem?_eq_some_iff.mp b1).1) b2
theorem c_record (H : Oks G) {b : List UInt8} {i p m n : Nat} {last ns : List Name} {rest : List Nat} (hp : At μ b i p) (gl : GoodP last) (gn : GoodP ns) (hm : m < 256) (hr : Rem b p (encR last ns m ++ rest) n)
    (h1 : recCut last ns n = none → Q (.tup [.int (m : Nat), .str (pth ns)]) (μ.set i (some [.int (p + (encR last ns m).length : Nat)]))) (h2 : ∀ w q, recCut last ns n = some w → q ≤ b.length → X w (μ.set i (some [.int (q : Nat)]))) :
    callC G (k + 8) .record [.strm b i, .str (pth last)] μ Q X := by
  refine go (H _).1 (H _).2 "_law_record" [] [] ["stream", "path"] [some (.strm b i), some (.str (pth last)), none, none, none, none] (by kernel_rfl) (by kernel_rfl) (by kernel_rfl) rfl (bind_pure fun pm code doc vs hl => by obtain ⟨v, u, rfl⟩ := len2 hl; kernel_rfl) t_record (by kernel_rfl) ?_
  obtain ⟨s1, s2⟩ := sameN_le last ns
  have l1 := gl.len
  have l2 := gn.len
  refine c_octet H hm hp hr (fun n1 e1 p1 r1 => ?_) fun q => by subst q; exact h2 _ p rfl hp.le
  subst e1
  refine c_octet H (by exact ar175 l1) p1 r1 (fun n2 e2 p2 r2 => ?_) fun q => by subst q; rw [List.set_set]; exact h2 _ _ rfl p1.le
  subst e2
  refine c_octet H (by exact ar175 l2) p2 r2 (fun n3 e3 p3 r3 => ?_) fun q => by subst q; rw [List.set_set, List.set_set]; exact h2 _ _ rfl p2.le
  subst e3
  rw [List.set_set, List.set_set] at p3 ⊢
  refine ⟨⟨Int.natCast_nonneg _, by exact ar176 l1⟩, ?_⟩
  refine ups H _ last none gl (by rw [show (rangeD _).length = _ from (List.length_map _).trans List.length_range]; exact Nat.sub_le _ _) fun w => ?_
  refine ⟨⟨Int.natCast_nonneg _, by exact ar176 l2⟩, ?_⟩
  have e4 : last.take (last.length - (rangeD ((last.length - sameN last ns : Nat) : Int)).length) = ns.take (sameN last ns) := by
    rw [show (rangeD ((last.length - sameN last ns : Nat) : Int)).length = last.length - sameN last ns from (List.length_map _).trans List.length_range, show last.length - (last.length - sameN last ns) = sameN last ns by exact ar177 s1, sameN_take]
  rw [e4]
  have e5 := List.take_append_drop (sameN last ns) ns
  refine downs H (ns.drop (sameN last ns)) _ _ w _ n3 _ (((List.length_map _).trans List.length_range).trans List.length_drop.symm) (by rw [e5]; exact gn) p3 r3 (fun q w => ?_) fun m q ρ c hq => ?_
  · rw [e5, List.set_set, show p + 1 + 1 + 1 + (encN (ns.drop (sameN last ns))).length = p + (encR last ns m).length from by show _ = p + ((encN (ns.drop (sameN last ns))).length + 3); exact ar178]
    exact ⟨Nat.le_of_ble_eq_true rfl, h1 q⟩
  · rw [List.set_set]; exact h2 m q c hq
theorem c_head (H : Oks G) {b : List UInt8} {i p N : Nat} {last : List Name} {rows : List (List Name × Nat)} (hp : At μ b i p) (gl : GoodP last) (gr : ∀ r ∈ rows, GoodP r.1 ∧ r.2 < 256) (hr : b.drop p = bts (encs last rows))
    (h1 : ∀ r q, rows = r :: q → b.drop (p + (encR last r.1 r.2).length) = bts (encs r.1 q) → At (μ.set i (some [.int (p + (encR last r.1 r.2).length : Nat)])) b i (p + (encR last r.1 r.2).length) →
      Q (headD ([] :: (if r.1 = [] then [[]] else r.1)) (N : Nat) (r.2 : Nat) (pth r.1)) (μ.set i (some [.int (p + (encR last r.1 r.2).length : Nat)])))
    (h2 : ∀ q, rows = [] → q ≤ b.length → Q .none (μ.set i (some [.int (q : Nat)]))) : callC G (k + 10) .head [.strm b i, .int (N : Nat), .str (pth last)] μ Q X := by
  refine go (H _).1 (H _).2 "_law_head" [] [] ["stream", "number", "path"] [some (.strm b i), some (.int (N : Nat)), some (.str (pth last)), none] (by kernel_rfl) (by kernel_rfl) (by kernel_rfl) rfl (bind_pure fun pm code doc vs hl => by obtain ⟨v, u, w, rfl⟩ := len3 hl; kernel_rfl) t_head (by kernel_rfl) ?_
  cases rows with
  | nil =>
    have hn : Rem b p (encR last [] 0 ++ []) 0 := hr
    exact c_record (ns := []) (m := 0) H hp gl ⟨Nat.zero_le _, fun g m => by cases m⟩ (by decide) hn (fun q => by cases q) fun w q zz hq => h2 q rfl hq
  | cons r q =>
    obtain ⟨g1, g2⟩ := gr r (.head _)
    have hn : Rem b p (encR last r.1 r.2 ++ encs r.1 q) (encR last r.1 r.2 ++ encs r.1 q).length := by
      unfold Rem
      exact hr.trans (List.take_of_length_le (Nat.le_of_eq (List.length_map _))).symm
    have hc : recCut last r.1 (encR last r.1 r.2 ++ encs r.1 q).length = none := recCut_len (m := r.2) (by rw [List.length_append]; exact Nat.le_add_right _ _)
    have hb : bts (encR last r.1 r.2 ++ encs r.1 q) = bts (encR last r.1 r.2) ++ bts (encs r.1 q) := List.map_append
    have hbl : (bts (encR last r.1 r.2)).length = (encR last r.1 r.2).length := List.length_map _
    refine c_record H hp gl g1 g2 hn (fun zz => ?_) fun w q e => by rw [hc] at e; cases e
    refine ⟨_, _, rfl, ?_⟩
    have hd : b.drop (p + (encR last r.1 r.2).length) = bts (encs r.1 q) := by
      rw [← List.drop_drop, hr]
      show (bts (encR last r.1 r.2 ++ encs r.1 q)).drop _ = _
      rw [hb, ← hbl, List.drop_left]
    have hle : p + (encR last r.1 r.2).length ≤ b.length := by
      have e := congrArg List.length hr
      rw [List.length_drop] at e
      have e : b.length - p = (bts (encR last r.1 r.2 ++ encs r.1 q)).length := e
      rw [hb, List.length_append, hbl] at e
      have := hp.le
      exact ar179 e this
    have := h1 r q rfl hd (hp.go hle)
    rw [← split_key fun g m => (g1.all g m).free] at this
    exact ⟨⟨_, rfl⟩, 47, rfl, by have := pth_len g1; exact ar180 this, Nat.le_of_ble_eq_true rfl, this⟩
end
section
open Classical
variable {G : GG} {k n : Nat} {μ : Mu} {Q : D → Mu → Prop} {X : List Nat → Mu → Prop}
theorem sameN_at : ∀ (a b : List Name) (s : Nat), s < sameN a b → ∃ g, a[s]? = some g ∧ b[s]? = some g
  | [], _, _, h => absurd h (Nat.not_lt_zero _)
  | _ :: _, [], _, h => absurd h (Nat.not_lt_zero _)
  | a :: r, b :: q, s, h => by
    unfold sameN at h
    by_cases e : a = b
    · rw [if_pos e] at h
      cases s with
      | zero => exact ⟨a, rfl, by rw [e]; rfl⟩
      | succ s => exact sameN_at r q s (Nat.lt_of_succ_lt_succ h)
    · rw [if_neg e] at h; exact absurd h (Nat.not_lt_zero _)
theorem sameN_end : ∀ (a b : List Name) (g h : Name), a[sameN a b]? = some g → b[sameN a b]? = some h → g ≠ h
  | [], _, _, _, q, _ => nosome q
  | _ :: _, [], _, _, _, q => nosome q
  | a :: r, b :: t, g, h, q1, q2 => by
    unfold sameN at q1 q2
    by_cases e : a = b
    · rw [if_pos e] at q1 q2; exact sameN_end r t g h q1 q2
    · rw [if_neg e] at q1 q2
      cases q1; cases q2; exact e
theorem strAtD {a : List Name} {s : Nat} {g : Name} (h : a[s]? = some g) : (a.map D.str)[s]? = some (.str g) := by rw [List.getElem?_map, h]; rfl
theorem c_same (H : Oks G) {a b : List Name} (h : Q (.int (sameN a b : Nat)) μ) : callC G (k + 2) .same [strsD a, strsD b] μ Q X := by
  refine go (H _).1 (H _).2 "_law_same" [] [] ["last", "names"] [some (strsD a), some (strsD b), none] (by kernel_rfl) (by kernel_rfl) (by kernel_rfl) rfl (bind_pure fun pm code doc vs hl => by obtain ⟨v, u, rfl⟩ := len2 hl; kernel_rfl) t_same (by kernel_rfl) ?_
  obtain ⟨s1, s2⟩ := sameN_le a b
  refine ⟨fun n ρ μ' => μ' = μ ∧ ∃ s : Nat, ρ = [some (strsD a), some (strsD b), some (.int (s : Nat))] ∧ s ≤ sameN a b ∧ n = sameN a b - s, sameN a b, ⟨rfl, 0, rfl, Nat.zero_le _, rfl⟩, ?_⟩
  rintro n ρ _ ⟨rfl, s, rfl, hs, rfl⟩
  show (decide ((s : Int) < min ((a.map D.str).length : Int) ((b.map D.str).length : Int)) = true → _) ∧ (decide ((s : Int) < min ((a.map D.str).length : Int) ((b.map D.str).length : Int)) = false → _)
  rw [List.length_map, List.length_map]
  refine ⟨fun q => ?_, fun q => ⟨fun q => (ff_tt q), fun zz => ?_⟩⟩
  · have q := of_decide_eq_true q
    have qa : s < a.length := by omega
    have qb : s < b.length := by omega
    refine ⟨Int.natCast_nonneg _, ?_⟩
    have ea := List.getElem?_eq_getElem qa
    have eb := List.getElem?_eq_getElem qb
    show match (a.map D.str)[s]? with | some d => _ | none => False
    rw [strAtD ea]
    refine ⟨Int.natCast_nonneg _, ?_⟩
    show match (b.map D.str)[s]? with | some d => _ | none => False
    rw [strAtD eb]
    show (decide (a[s] = b[s]) = true → _) ∧ (decide (a[s] = b[s]) = false → _)
    refine ⟨fun q => ?_, fun q => ?_⟩
    · have q := of_decide_eq_true q
      have hlt : s < sameN a b := by
        refine Nat.lt_of_le_of_ne hs fun e => ?_
        subst e
        exact sameN_end a b _ _ ea eb q
      exact ⟨_, by exact ar181 hlt, rfl, s + 1, rfl, hlt, rfl⟩
    · have q := of_decide_eq_false q
      have hge : ¬ s < sameN a b := fun c => by
        obtain ⟨g, e1, e2⟩ := sameN_at a b s c
        rw [ea] at e1; rw [eb] at e2
        exact q ((Option.some.inj e1).trans (Option.some.inj e2).symm)
      obtain rfl : s = sameN a b := by exact ar28 hs hge
      exact h
  · have q := of_decide_eq_false q
    obtain rfl : s = sameN a b := by omega
    exact h
end
section
section
variable {α : Type} (le : α → α → Prop)
noncomputable def par (i j : Nat) : Prop := j = 2 * i + 1 ∨ j = 2 * i + 2
theorem par.lt {i j : Nat} (h : par i j) : i < j := by unfold par at h; exact ar139 h
theorem par.one {i i' j : Nat} (h : par i j) (h' : par i' j) : i = i' := by unfold par at h h'; exact ar140 h h'
noncomputable def edge (l : List α) (i j : Nat) : Prop := ∀ a b, l[i]? = some a → l[j]? = some b → le a b
inductive Anc (s : Nat) : Nat → Prop
  | refl : Anc s s
  | step {i j : Nat} (h : Anc s i) (p : par i j) : Anc s j
theorem Anc.sle {s p : Nat} (h : Anc s p) : s ≤ p := by
  induction h with
  | refl => exact Nat.le_refl _
  | step _ p ih => exact Nat.le_trans ih (Nat.le_of_lt p.lt)
theorem Anc.up {s p : Nat} (h : Anc s p) (q : s < p) : ∃ i, par i p ∧ Anc s i ∧ i = (p - 1) / 2 := by
  cases h with
  | refl => exact absurd q (Nat.lt_irrefl _)
  | step h p => exact ⟨_, p, h, by unfold par at p; exact ar141 p⟩
noncomputable def Hp (s : Nat) (l : List α) : Prop := ∀ i j, par i j → s ≤ i → edge le l i j
structure Hole (s p : Nat) (l : List α) : Prop where
  anc : Anc s p
  lt : p < l.length
  far : ∀ i j, par i j → s ≤ i → i ≠ p → j ≠ p → edge le l i j
  over : ∀ i j, par i p → par p j → s ≤ i → edge le l i j
theorem get_other {l : List α} {p j : Nat} {x : α} (h : p ≠ j) : (l.set p x)[j]? = l[j]? := List.getElem?_set_ne h
theorem get_same {l : List α} {p : Nat} {x a : α} (h : (l.set p x)[p]? = some a) : a = x := by
  rw [List.getElem?_set_self (by have := (List.getElem?_eq_some_iff.mp h).1; rw [List.length_set] at this; exact this)] at h
  exact (Option.some.inj h).symm
variable {le}
theorem Hole.start {s : Nat} {l : List α} (h : Hp le (s + 1) l) (hl : s < l.length) : Hole le s s l where
  anc := .refl
  lt := hl
  far := fun i j p q n m => h i j p (Nat.lt_of_le_of_ne q (Ne.symm n))
  over := fun i j p zz q => absurd p.lt (Nat.not_lt.mpr q)
theorem Hole.down {s p c : Nat} {l : List α} {v : α} (h : Hole le s p l) (pc : par p c) (hv : l[c]? = some v) (hm : ∀ j b, par p j → j ≠ c → l[j]? = some b → le v b) : Hole le s c (l.set p v) where
  anc := h.anc.step pc
  lt := by rw [List.length_set]; exact (List.getElem?_eq_some_iff.mp hv).1
  far := fun i j q si ic jc a b ha hb => by
    by_cases ip : i = p
    · subst ip
      have := get_same ha; subst this
      rw [get_other (Nat.ne_of_lt q.lt)] at hb
      exact hm j b q jc hb
    · rw [get_other (Ne.symm ip)] at ha
      by_cases jp : j = p
      · subst jp
        have := get_same hb; subst this
        exact h.over i c q pc si a b ha hv
      · rw [get_other (Ne.symm jp)] at hb
        exact h.far i j q si ip jp a b ha hb
  over := fun i j q q2 si a b ha hb => by
    obtain rfl := q.one pc
    have := get_same ha; subst this
    have pj := Nat.lt_trans q.lt q2.lt
    rw [get_other (Nat.ne_of_lt pj)] at hb
    exact h.far c j q2 (Nat.le_trans si (Nat.le_of_lt q.lt)) (Nat.ne_of_gt q.lt) (Nat.ne_of_gt pj) a b hv hb
theorem Hole.up (tr : ∀ {a b c : α}, le a b → le b c → le a c) {s p i : Nat} {l : List α} {x v : α} (h : Hole le s p l) (hi : par i p) (ha : Anc s i) (hv : l[i]? = some v) (hx : le x v) (hc : ∀ j b, par p j → l[j]? = some b → le x b) :
    Hole le s i (l.set p v) ∧ ∀ j b, par i j → (l.set p v)[j]? = some b → le x b := by
  have sle := ha.sle
  have ip := hi.lt
  refine ⟨⟨ha, by rw [List.length_set]; exact (List.getElem?_eq_some_iff.mp hv).1, fun a j q si ai ji u w hu hw => ?_, fun g j q q2 sg u w hu hw => ?_⟩, fun j b q hb => ?_⟩
  · have jp : p ≠ j := fun e => ai (q.one (e ▸ hi))
    rw [get_other jp] at hw
    by_cases e : a = p
    · subst e
      have := get_same hu; subst this
      exact h.over i j hi q sle u w hv hw
    · rw [get_other (Ne.symm e)] at hu
      exact h.far a j q si e (Ne.symm jp) u w hu hw
  · have gi := Nat.lt_trans q.lt ip
    rw [get_other (Nat.ne_of_gt gi)] at hu
    have e1 := h.far g i q sg (Nat.ne_of_lt gi) (Nat.ne_of_lt ip) u v hu hv
    by_cases e : p = j
    · subst e
      have := get_same hw; subst this
      exact e1
    · rw [get_other e] at hw
      exact tr e1 (h.far i j q2 sle (Nat.ne_of_lt ip) (Ne.symm e) v w hv hw)
  · by_cases e : p = j
    · subst e
      have := get_same hb; subst this
      exact hx
    · rw [get_other e] at hb
      exact tr hx (h.far i j q sle (Nat.ne_of_lt ip) (Ne.symm e) v b hv hb)
theorem Hole.fill {s p : Nat} {l : List α} {x : α} (h : Hole le s p l) (hc : ∀ j b, par p j → l[j]? = some b → le x b) (hp : ∀ i v, par i p → s ≤ i → l[i]? = some v → le v x) : Hp le s (l.set p x) := fun i j q si a b ha hb => by
  by_cases ip : i = p
  · subst ip
    have := get_same ha; subst this
    rw [get_other (Nat.ne_of_lt q.lt)] at hb
    exact hc j b q hb
  · rw [get_other (Ne.symm ip)] at ha
    by_cases jp : j = p
    · subst jp
      have := get_same hb; subst this
      exact hp i a q si ha
    · rw [get_other (Ne.symm jp)] at hb
      exact h.far i j q si ip jp a b ha hb
theorem Hp.top (tr : ∀ {a b c : α}, le a b → le b c → le a c) (rf : ∀ a, le a a) {l : List α} {a : α} (h : Hp le 0 l) (h0 : l[0]? = some a) : ∀ (j : Nat) (b : α), l[j]? = some b → le a b := fun j => by
  induction j using Nat.strongRecOn with
  | ind j ih =>
    intro b hb
    by_cases e : j = 0
    · subst e; rw [h0] at hb; cases hb; exact rf a
    · have q : par ((j - 1) / 2) j := by unfold par; exact ar142 e
      have hl := (List.getElem?_eq_some_iff.mp hb).1
      have hl2 : (j - 1) / 2 < l.length := by exact ar143 hl
      exact tr (ih _ (by exact ar144 e) _ (List.getElem?_eq_getElem hl2)) (h _ _ q (Nat.zero_le _) _ _ (List.getElem?_eq_getElem hl2) hb)
theorem swap_perm {l : List α} {p c : Nat} {x v : α} (h : p ≠ c) (hp : p < l.length) (hv : l[c]? = some v) : ((l.set p v).set c x).Perm (l.set p x) := by
  have hc := (List.getElem?_eq_some_iff.mp hv).1
  have h1 : p < (l.set p x).toArray.size := by show p < (l.set p x).length; rw [List.length_set]; exact hp
  have h2 : c < (l.set p x).toArray.size := by show c < (l.set p x).length; rw [List.length_set]; exact hc
  have := Array.swap_perm (xs := (l.set p x).toArray) h1 h2
  have e : ((l.set p x).toArray.swap p c h1 h2).toList = (l.set p v).set c x := by
    rw [Array.swap_def]
    have e1 : (l.set p x)[p]'h1 = x := List.getElem_set_self _
    have e2 : (l.set p x)[c]'h2 = v := by rw [List.getElem_set_ne h]; exact (List.getElem?_eq_some_iff.mp hv).2
    show (((l.set p x).set p ((l.set p x)[c]'h2)).set c ((l.set p x)[p]'h1)) = _
    rw [e1, e2, List.set_set]
  have := this.toList
  rw [e] at this
  exact this
end
end
section
open Classical
variable {G : GG} {k n : Nat} {μ : Mu} {Q : D → Mu → Prop} {X : List Nat → Mu → Prop}
theorem sameN_comm : ∀ a b : List Name, sameN a b = sameN b a
  | [], [] => rfl
  | [], _ :: _ => rfl
  | _ :: _, [] => rfl
  | a :: r, b :: q => by
    unfold sameN
    by_cases e : a = b
    · rw [if_pos e, if_pos e.symm, sameN_comm r q]
    · rw [if_neg e, if_neg (Ne.symm e)]
theorem lt_same : ∀ a b : List Name, ltL b a = false → sameN a b < a.length → sameN a b < b.length
  | [], _, _, h => absurd h (Nat.not_lt_zero _)
  | _ :: _, [], q, _ => nomatch q
  | a :: r, b :: t, q, h => by
    unfold sameN at h ⊢
    by_cases e : a = b
    · rw [if_pos e] at h ⊢
      subst e
      rw [show ltL (a :: t) (a :: r) = ltL t r from if_pos rfl] at q
      exact Nat.succ_lt_succ (lt_same r t q (Nat.lt_of_succ_lt_succ h))
    · rw [if_neg e]; exact Nat.succ_pos _
noncomputable abbrev rhoC (x0 x3 : D) (a b c : List Name) (i j : Option D) : Rho := [some x0, some (.str [47]), some (.str [46]), some x3, some (.bool true), j, some (strsD a), some (strsD b), some (strsD c), i, none]
theorem diffs {x0 x3 : D} {a b : List Name} {Q : FQ} {X : MX} (h : ∀ i j, Q .next (rhoC x0 x3 a b (a.take (sameN a b)) i j) μ) (hl : ltL b a = false) (hb : a.length ≤ 1000) : ∀ (l : List Name) (s : Nat) (i j : Option D), l = a.drop s → s ≤ sameN a b →
    forC (step2 9 5 (vSeq (vIf G k (PE.cmp Cop.ne (PE.loc 5) ((PE.loc 7).idx (PE.loc 9))) (vSeq (vSet G k 8 ((PE.loc 6).sto (PE.loc 9))) (vSeq vBrk vSkip)) vSkip) vSkip) X) (((l.map D.str).zipIdx s).map fun p => .tup [.int (p.2 : Nat), p.1]) (rhoC x0 x3 a b a i j) μ Q
  | [], s, i, j, e, hs => by
    have := congrArg List.length e
    rw [List.length_drop] at this
    have hl : a.length ≤ sameN a b := Nat.le_trans (Nat.le_of_sub_eq_zero this.symm) hs
    have := h i j
    rw [List.take_of_length_le hl] at this
    exact this
  | g :: r, s, i, j, e, hs => by
    have e1 : a[s]? = some g := by rw [← List.head?_drop, ← e]; rfl
    have sl := (List.getElem?_eq_some_iff.mp e1).1
    have e2 : r = a.drop (s + 1) := by rw [← List.drop_drop, ← e]; rfl
    have sb : s < b.length := by
      rcases Nat.lt_or_eq_of_le hs with q | q
      · exact Nat.lt_of_lt_of_le q (sameN_le a b).2
      · subst q; exact lt_same a b hl sl
    have eb := List.getElem?_eq_getElem sb
    refine ⟨.int (s : Nat), .str g, rfl, Int.natCast_nonneg _, ?_⟩
    show match (b.map D.str)[s]? with | some d => _ | none => False
    rw [strAtD eb]
    show (decide (g ≠ b[s]) = true → _) ∧ (decide (g ≠ b[s]) = false → _)
    refine ⟨fun q => ?_, fun q => ?_⟩
    · have q := of_decide_eq_true q
      have hge : ¬ s < sameN a b := fun c => by
        obtain ⟨g', e3, e4⟩ := sameN_at a b s c
        rw [e1] at e3; rw [eb] at e4
        exact q ((Option.some.inj e3).trans (Option.some.inj e4).symm)
      obtain rfl : s = sameN a b := Nat.le_antisymm hs (Nat.not_lt.mp hge)
      refine ⟨⟨Int.natCast_nonneg _, by unfold big; exact ar182 hb sl⟩, ?_⟩
      have := h (some (.int (sameN a b : Nat))) (some (.str g))
      unfold rhoC strsD at this
      rw [List.map_take] at this
      exact this
    · have q := Classical.not_not.mp (of_decide_eq_false q)
      have hlt : s < sameN a b := by
        refine Nat.lt_of_le_of_ne hs fun c => ?_
        subst c
        exact sameN_end a b _ _ e1 eb q
      exact diffs h hl hb r (s + 1) _ _ e2 hlt
end
section
open Classical
variable {G : GG} {k n : Nat} {μ : Mu} {Q : D → Mu → Prop} {X : List Nat → Mu → Prop}
theorem names_ok {cap : List (Option Nat)} {ρ : Rho} (hc : capRho ρ cap = [none, none, some (.str [46])]) : ∀ (l : List Name) {K : List (Option D) → Mu → Prop}, K (l.map fun g => if g ≠ [] ∧ g ≠ [46] then some (.str g) else none) μ →
    seqC (fun d μ₂ K => vcIfs G k [(PE.loc 1).and (PE.cmp Cop.ne (PE.loc 1) (PE.loc 2))] (put (capRho ρ cap) 1 (some d)) μ₂ (fun ok μ₃ => (ok = true → vcE G k (PE.loc 1) (put (capRho ρ cap) 1 (some d)) μ₃ (fun y => K (some y)) (fun zz zz => False)) ∧ (ok = false → K none μ₃)) (fun zz zz => False)) (l.map .str) μ K := by
  rw [hc]
  intro l
  induction l with
  | nil => exact fun h => h
  | cons g r ih =>
    intro K h
    have : K ((if g ≠ [] ∧ g ≠ [46] then some (.str g) else none) :: r.map fun g => if g ≠ [] ∧ g ≠ [46] then some (.str g) else none) μ := h
    show (decide (g ≠ []) = true → (decide (g ≠ [46]) = true → (true = true → _) ∧ _) ∧ (decide (g ≠ [46]) = false → (false = true → _) ∧ _)) ∧ (decide (g ≠ []) = false → (false = true → _) ∧ _)
    refine ⟨fun q => ⟨fun q2 => ⟨fun zz => ih ?_, fun q => (nomatch q)⟩, fun q2 => ⟨fun q => (nomatch q), fun zz => ih ?_⟩⟩, fun q => ⟨fun q => (ff_tt q), fun zz => ⟨fun q => (nomatch q), fun zz => ih ?_⟩⟩⟩
    · rw [if_pos ⟨of_decide_eq_true q, of_decide_eq_true q2⟩] at this; exact this
    · rw [if_neg fun c => of_decide_eq_false q2 c.2] at this; exact this
    · rw [if_neg fun c => of_decide_eq_false q c.1] at this; exact this
theorem opts_names {a : List Name} (h : ∀ g ∈ a, GoodN g) : ∀ l : List Name, l = a → optsD (l.map fun g => if g ≠ [] ∧ g ≠ [46] then some (D.str g) else none) = a.map D.str := by
  induction a with
  | nil => rintro _ rfl; rfl
  | cons g r ih =>
    rintro _ rfl
    have gg := h g (.head _)
    rw [List.map_cons, if_pos ⟨gg.ne, gg.dot⟩]
    exact congrArg (D.str g :: ·) (ih (fun g m => h g (.tail _ m)) r rfl)
theorem opts_key {a : List Name} (h : GoodP a) : optsD ((splitN 47 (pth a)).map fun g => if g ≠ [] ∧ g ≠ [46] then some (D.str g) else none) = a.map D.str := by
  rw [split_key fun g m => (h.all g m).free, List.map_cons, if_neg fun c => c.1 rfl]
  by_cases e : a = []
  · subst e; rw [if_pos rfl, List.map_cons, if_neg fun c => c.1 rfl]; rfl
  · rw [if_neg e]; exact opts_names h.all a rfl
theorem sum_len : ∀ {l : List Name}, (∀ g ∈ l, GoodN g) → (l.map List.length).sum ≤ 3 * l.length
  | [], _ => Nat.le_refl _
  | g :: r, h => by
    have := (h g (.head _)).len
    have := sum_len fun g m => h g (.tail _ m)
    show g.length + (r.map List.length).sum ≤ 3 * (r.length + 1)
    exact ar183 ‹_› this
theorem c_common (H : Oks G) {a b : List Name} (ga : GoodP a) (gb : GoodP b) (h : Q (.str (pth (a.take (sameN a b)))) μ) : callC G (k + 4) .common [.list [.str (pth a), .str (pth b)]] μ Q X := by
  refine go (H _).1 (H _).2 "commonpath" [] [] ["paths"] [some (.list [.str (pth a), .str (pth b)]), none, none, none, none, none, none, none, none, none, none] (by kernel_rfl) (by kernel_rfl) (by kernel_rfl) rfl (bind_pure fun pm code doc vs hl => by obtain ⟨v, rfl⟩ := len1 hl; kernel_rfl) t_commonpath (by kernel_rfl) ?_
  have la := pth_len ga
  have lb := pth_len gb
  refine ⟨Nat.le_of_ble_eq_true rfl, c_fspath H (c_fspath H ?_)⟩
  refine ⟨fun q => (ff_tt q), fun zz => ?_⟩
  refine ⟨Int.le_refl _, pth a, rfl, fun q => (ff_tt q), fun zz => ?_⟩
  refine ⟨Nat.le_of_ble_eq_true rfl, ⟨fun zz => ⟨⟨_, rfl⟩, 47, rfl, by exact ar180 la, ⟨fun zz => ⟨⟨_, rfl⟩, 47, rfl, by exact ar180 lb, ?_⟩, fun q => (nomatch q)⟩⟩, fun q => (nomatch q)⟩⟩
  refine ⟨true, ⟨fun q => (nomatch q), Nat.le_refl _⟩, fun d m => ?_, ?_⟩
  · rcases List.mem_cons.mp m with rfl | m
    · exact ⟨⟨_, rfl⟩, rfl, rfl⟩
    rcases List.mem_cons.mp m with rfl | m
    · exact ⟨⟨_, rfl⟩, rfl, rfl⟩
    · cases m
  have lk : ∀ {a : List Name}, GoodP a → (splitN 47 (pth a)).length ≤ 4 := fun {a} g => by
    rw [split_key fun x m => (g.all x m).free]
    have := g.len
    by_cases e : a = []
    · rw [if_pos e]; decide
    · rw [if_neg e]; exact Nat.succ_le_succ this
  have lka := lk ga
  have lkb := lk gb
  refine ⟨Nat.le_of_ble_eq_true rfl, ⟨fun zz => ⟨by rw [List.length_map]; exact ar184 lka, ?_⟩, fun q => (nomatch q)⟩⟩
  refine names_ok rfl _ ?_
  rw [if_neg Bool.false_ne_true, opts_key ga]
  refine ⟨fun zz => ⟨by rw [List.length_map]; exact ar184 lkb, ?_⟩, fun q => (nomatch q)⟩
  refine names_ok rfl _ ?_
  rw [if_neg Bool.false_ne_true, opts_key gb]
  refine ⟨a, b, rfl, a, b, rfl, ?_⟩
  obtain ⟨s, t, e1, e2, hl, hg, he⟩ : ∃ s t, (if ltL b a = true then strsD b else strsD a) = strsD s ∧ (if ltL a b = true then strsD b else strsD a) = strsD t ∧ ltL t s = false ∧ GoodP s ∧ s.take (sameN s t) = a.take (sameN a b) := by
    rcases ltL_strict.tri a b with q | q | q
    · have q2 := ltL_strict.asym q
      exact ⟨a, b, if_neg q2, if_pos q, Bool.eq_false_iff.mpr q2, ga, rfl⟩
    · subst q
      have q2 := ltL_strict.irr a
      exact ⟨a, a, if_neg q2, if_neg q2, Bool.eq_false_iff.mpr q2, ga, rfl⟩
    · have q2 := ltL_strict.asym q
      exact ⟨b, a, if_pos q, if_neg q2, Bool.eq_false_iff.mpr q2, gb, by rw [sameN_comm b a, sameN_take]⟩
  rw [e1, e2]
  have l3 : (s.take (sameN s t)).length ≤ 3 := by rw [List.length_take]; have := hg.len; omega
  have l9 := sum_len (l := s.take (sameN s t)) fun g m => hg.all g (List.mem_of_mem_take m)
  have l12 : (pth (s.take (sameN s t))).length ≤ 12 := pth_len ⟨l3, fun g m => hg.all g (List.mem_of_mem_take m)⟩
  refine diffs (fun i j => ?_) hl (by have := hg.len; exact ar171 this) s 0 none none rfl (Nat.zero_le _)
  refine ⟨fun zz => ⟨⟨_, rfl⟩, _, rfl, by show _ + _ * 1 ≤ _; omega, by show _ ≤ 16777216; unfold pth at l12; rw [List.length_cons] at l12; show 1 + _ ≤ _; exact ar185 l12, ?_⟩, fun q => (nomatch q)⟩
  rw [he]; exact h
end
section
open Classical
variable {G : GG} {k n : Nat} {μ : Mu} {Q : D → Mu → Prop} {X : List Nat → Mu → Prop}
structure Hd where
  n : List Name
  i : Nat
  m : Nat
  p : List Nat
noncomputable def hdD (h : Hd) : D := headD h.n (h.i : Nat) (h.m : Nat) h.p
noncomputable def ltH (x y : Hd) : Bool := if x.n = y.n then decide ((x.i : Int) < y.i) else ltL x.n y.n
noncomputable abbrev leH (x y : Hd) : Prop := ltH y x = false
noncomputable abbrev HpH (s : Nat) (l : List Hd) : Prop := Hp leH s l
theorem leH_tr {a b c : Hd} (h1 : leH a b) (h2 : leH b c) : leH a c := by
  unfold leH ltH at *
  by_cases e1 : b.n = a.n
  · rw [if_pos e1] at h1
    by_cases e2 : c.n = b.n
    · rw [if_pos e2] at h2
      rw [if_pos (e2.trans e1)]
      exact decide_eq_false fun q => of_decide_eq_false h2 (Int.lt_of_lt_of_le q (Int.not_lt.mp (of_decide_eq_false h1)))
    · rw [if_neg e2] at h2
      rw [if_neg fun q => e2 (q.trans e1.symm), ← e1]; exact h2
  · rw [if_neg e1] at h1
    by_cases e2 : c.n = b.n
    · rw [e2, if_neg e1]; exact h1
    · rw [if_neg e2] at h2
      have h3 : ¬ ltL c.n a.n = true := ltL_strict.le_tr (by rw [h1]; exact Bool.false_ne_true) (by rw [h2]; exact Bool.false_ne_true)
      by_cases e3 : c.n = a.n
      · rcases ltL_strict.tri a.n b.n with q | q | q
        · rw [e3] at h2; rw [h2] at q; cases q
        · exact absurd q.symm e1
        · rw [h1] at q; cases q
      · rw [if_neg e3]; exact Bool.eq_false_iff.mpr h3
theorem leH_of {a b : Hd} (h : ltH a b = true) : leH a b := by
  unfold leH ltH at *
  by_cases e : a.n = b.n
  · rw [if_pos e] at h; rw [if_pos e.symm]
    exact decide_eq_false fun q => Int.lt_irrefl _ (Int.lt_trans q (of_decide_eq_true h))
  · rw [if_neg e] at h; rw [if_neg (Ne.symm e)]
    exact Bool.eq_false_iff.mpr (ltL_strict.asym h)
theorem leH_rf (a : Hd) : leH a a := by
  unfold leH ltH; rw [if_pos rfl]; exact decide_eq_false (Int.lt_irrefl _)
theorem lt_head {a b : Hd} {K : Bool → Prop} (h : a.i ≠ b.i) (hk : K (ltH a b)) : ltD (hdD a) (hdD b) K :=
  ⟨a.n, a.i, a.m, a.p, b.n, b.i, b.m, b.p, rfl, rfl, fun zz q => h (Int.ofNat.inj q), fun c e => by rw [e]; exact hk⟩
theorem apart2 {l l2 : List Hd} {p i : Nat} {x v : Hd} (hp : l2.Perm l) (hn : (l.map Hd.i).Nodup) (hx : l2[p]? = some x) (hv : l2[i]? = some v) (hi : p ≠ i) : x.i ≠ v.i := by
  have hn := ((hp.map Hd.i).nodup_iff).mpr hn
  intro e
  have e1 : (l2.map Hd.i)[p]? = some x.i := by rw [List.getElem?_map, hx]; rfl
  have e2 : (l2.map Hd.i)[i]? = some x.i := by rw [List.getElem?_map, hv, e]; rfl
  have l2 := (List.getElem?_eq_some_iff.mp e1).1
  exact hi ((List.getElem?_inj l2 hn).mp (e1.trans e2.symm))
theorem apartH {l l1 : List Hd} {p i : Nat} {x v : Hd} (hp : (l1.set p x).Perm l) (hn : (l.map Hd.i).Nodup) (hl : p < l1.length) (hv : l1[i]? = some v) (hi : p ≠ i) : x.i ≠ v.i :=
  apart2 hp hn (List.getElem?_set_self hl) ((get_other hi).trans hv) hi
theorem hdAt {l : List Hd} {i : Nat} {v : Hd} (h : l[i]? = some v) : (l.map hdD)[i]? = some (hdD v) := by rw [List.getElem?_map, h]; rfl
noncomputable abbrev muH (μ : Mu) (j : Nat) (l : List Hd) : Mu := μ.set j (some (l.map hdD))
theorem muH_at {j : Nat} (h : j < μ.length) (l : List Hd) : (muH μ j l)[j]? = some (some (l.map hdD)) := List.getElem?_set_self h
theorem muH_set {j p : Nat} {l : List Hd} {v : Hd} : (muH μ j l).set j (some ((l.map hdD).set p (hdD v))) = muH μ j (l.set p v) := by
  unfold muH; rw [List.set_set, List.map_set]
inductive DI (x : Hd) (j s : Nat) (l : List Hd) (μ : Mu) (n : Nat) (ρ : Rho) (μ' : Mu) : Prop
  | mk (l1 : List Hd) (a b : Option D) (hm : μ' = muH μ j l1) (hr : ρ = [some (.mut j), some (.int (s : Nat)), some (.int (n : Nat)), some (hdD x), a, b]) (h1 : Hole leH s n l1) (h2 : ∀ j b, par n j → l1[j]? = some b → leH x b) (h3 : (l1.set n x).Perm l)
theorem c_down (H : Oks G) {j s p : Nat} {l : List Hd} {x : Hd} (hm : μ[j]? = some (some (l.map hdD))) (h : Hole leH s p l) (hx : l[p]? = some x) (hc : ∀ j b, par p j → l[j]? = some b → leH x b) (hn : (l.map Hd.i).Nodup)
    (hQ : ∀ l', l'.Perm l → HpH s l' → Q .none (muH μ j l')) : callC G (k + 2) .down [.mut j, .int (s : Nat), .int (p : Nat)] μ Q X := by
  refine go (H _).1 (H _).2 "_siftdown" [] [] ["heap", "startpos", "pos"] [some (.mut j), some (.int (s : Nat)), some (.int (p : Nat)), none, none, none] (by kernel_rfl) (by kernel_rfl) (by kernel_rfl) rfl (bind_pure fun pm code doc vs hl => by obtain ⟨v, u, w, rfl⟩ := len3 hl; kernel_rfl) t_siftdown (by kernel_rfl) ?_
  have hj : j < μ.length := (List.getElem?_eq_some_iff.mp hm).1
  refine getMuI hm (atDI (Int.natCast_nonneg _) (hdAt hx) ?_)
  have hμ : μ = muH μ j l := by
    have e := (List.getElem?_eq_some_iff.mp hm).2
    unfold muH; rw [← e, List.set_getElem_self]
  have hpl : (l.set p x).Perm l := by
    have e := (List.getElem?_eq_some_iff.mp hx).2
    rw [← e, List.set_getElem_self]
  refine ⟨DI x j s l μ, p, .mk l none none hμ rfl h hc hpl, fun p1 ρ μ' hI => ?_⟩
  cases hI with
  | mk l1 a b hm' hr' h1 h2 h3 =>
  subst hm'; subst hr'
  have out : ∀ a b, (∀ i v, par i p1 → s ≤ i → l1[i]? = some v → leH v x) → vSeq (vSetI G k (PE.loc 0) (PE.loc 2) (PE.loc 3)) vSkip [some (.mut j), some (.int (s : Nat)), some (.int (p1 : Nat)), some (hdD x), a, b] (muH μ j l1) (endQ Q) fun m zz => X m := fun a b hp => by
    refine getMuI (muH_at hj l1) ⟨⟨Int.natCast_nonneg _, by rw [List.length_map]; exact Int.ofNat_lt.mpr h1.lt⟩, ?_⟩
    have := hQ _ h3 (h1.fill h2 hp)
    rw [← muH_set] at this
    exact this
  refine ⟨fun q => ?_, fun q => out a b fun i v q2 q3 zz => ?_⟩
  · have q : s < p1 := Int.ofNat_lt.mp (of_decide_eq_true q)
    obtain ⟨i, hi, ha, ei⟩ := h1.anc.up q
    have il := hi.lt
    have hil : i < l1.length := Nat.lt_trans il h1.lt
    have hv := List.getElem?_eq_getElem hil
    have e2 : ((p1 : Int) - 1) / 2 = (i : Nat) := by exact ar186 ei il
    refine ⟨⟨rfl, by exact ar187 e2⟩, ?_⟩
    rw [e2]
    refine getMuI (muH_at hj l1) (atDI (Int.natCast_nonneg _) (hdAt hv) ?_)
    refine lt_head (apartH h3 hn h1.lt hv (Nat.ne_of_gt il)) ?_
    refine ⟨fun c => ?_, fun c => ?_⟩
    · refine getMuI (muH_at hj l1) ⟨⟨Int.natCast_nonneg _, by rw [List.length_map]; exact Int.ofNat_lt.mpr h1.lt⟩, ?_⟩
      obtain ⟨u1, u2⟩ := Hole.up (le := leH) (x := x) leH_tr h1 hi ha hv (leH_of c) h2
      exact ⟨i, il, .mk _ _ _ muH_set rfl u1 u2 ((swap_perm (Nat.ne_of_gt il) h1.lt hv).trans h3)⟩
    · refine out _ _ fun i' v q2 q3 e => ?_
      obtain rfl := q2.one hi
      rw [hv] at e; cases e
      exact c
  · have q : ¬ s < p1 := fun c => of_decide_eq_false q (Int.ofNat_lt.mpr c)
    exact absurd (Nat.lt_of_le_of_lt q3 q2.lt) q
end
section
open Classical
variable {G : GG} {k n : Nat} {μ : Mu} {Q : D → Mu → Prop} {X : List Nat → Mu → Prop}
theorem Hole.setAt {α : Type} {le : α → α → Prop} {s p : Nat} {l : List α} (x : α) (h : Hole le s p l) : Hole le s p (l.set p x) where
  anc := h.anc
  lt := by rw [List.length_set]; exact h.lt
  far := fun i j q si ip jp a b ha hb => by
    rw [get_other (Ne.symm ip)] at ha; rw [get_other (Ne.symm jp)] at hb
    exact h.far i j q si ip jp a b ha hb
  over := fun i j q q2 si a b ha hb => by
    rw [get_other (Nat.ne_of_gt q.lt)] at ha; rw [get_other (Nat.ne_of_lt q2.lt)] at hb
    exact h.over i j q q2 si a b ha hb
theorem muH_twice {j : Nat} {l l' : List Hd} {o : Option (List D)} : muH ((muH μ j l).set j o) j l' = muH μ j l' := by unfold muH; rw [List.set_set, List.set_set]
noncomputable abbrev rhoU (j p z s : Nat) (x : D) (c : Nat) (a : Option D) : Rho := [some (.mut j), some (.int (p : Nat)), some (.int (z : Nat)), some (.int (s : Nat)), some x, some (.int (c : Nat)), a]
theorem up_step {j p z s c : Nat} {l : List Hd} {x : D} {v : Hd} {a : Option D} {Q : FQ} {X : MX} (hj : j < μ.length) (hp : p < l.length) (hv : l[c]? = some v) (hc : c < 1000000) (h : Q .next (rhoU j c z s x (2 * c + 1) a) (muH μ j (l.set p v))) :
    vSeq (vSetI G k (PE.loc 0) (PE.loc 1) ((PE.loc 0).idx (PE.loc 5))) (vSeq (vSet G k 1 (PE.loc 5)) (vSeq (vSet G k 5 (PE.bin Bop.add (PE.bin Bop.mul (PE.int 2) (PE.loc 1)) (PE.int 1))) vSkip)) (rhoU j p z s x c a) (muH μ j l) Q X := by
  refine getMuI (muH_at hj l) (atDI (Int.natCast_nonneg _) (hdAt hv) ?_)
  refine getMuI (muH_at hj l) ⟨⟨Int.natCast_nonneg _, by rw [List.length_map]; exact Int.ofNat_lt.mpr hp⟩, ?_⟩
  refine ⟨⟨by decide, by show c < 2 ^ 60; omega⟩, ?_⟩
  rw [← muH_set] at h
  exact h
inductive UI (x : Hd) (j s : Nat) (l : List Hd) (μ : Mu) (n : Nat) (ρ : Rho) (μ' : Mu) : Prop
  | mk (l1 : List Hd) (p1 : Nat) (a : Option D) (hm : μ' = muH μ j l1) (hr : ρ = rhoU j p1 l.length s (hdD x) (2 * p1 + 1) a) (h1 : Hole leH s p1 l1) (h2 : l1.length = l.length) (h3 : (l1.set p1 x).Perm l) (hn : n = l.length - p1)
theorem c_up (H : Oks G) {j s : Nat} {l : List Hd} (hm : μ[j]? = some (some (l.map hdD))) (h : HpH (s + 1) l) (hs : s < l.length) (hz : l.length ≤ 1000) (hn : (l.map Hd.i).Nodup)
    (hQ : ∀ l', l'.Perm l → HpH s l' → Q .none (muH μ j l')) : callC G (k + 4) .up [.mut j, .int (s : Nat)] μ Q X := by
  refine go (H _).1 (H _).2 "_siftup" [] [] ["heap", "pos"] [some (.mut j), some (.int (s : Nat)), none, none, none, none, none] (by kernel_rfl) (by kernel_rfl) (by kernel_rfl) rfl (bind_pure fun pm code doc vs hl => by obtain ⟨v, u, rfl⟩ := len2 hl; kernel_rfl) t_siftup (by kernel_rfl) ?_
  have hj : j < μ.length := (List.getElem?_eq_some_iff.mp hm).1
  have hx := List.getElem?_eq_getElem hs
  have hμ : μ = muH μ j l := by
    have e := (List.getElem?_eq_some_iff.mp hm).2
    unfold muH; rw [← e, List.set_getElem_self]
  refine getMuI hm (getMuI hm (atDI (Int.natCast_nonneg _) (hdAt hx) ?_))
  refine ⟨⟨by decide, by show s < 2 ^ 60; omega⟩, ?_⟩
  rw [List.length_map]
  generalize hxx : l[s] = x
  refine ⟨UI x j s l μ, l.length - s, .mk l s none hμ rfl (Hole.start h hs) rfl (by rw [← hxx, List.set_getElem_self]) rfl, fun n ρ μ' hI => ?_⟩
  cases hI with
  | mk l1 p1 a hm' hr' h1 hl1 h3 hn' =>
  subst hm'; subst hr'; subst hn'
  have hp1 := h1.lt
  have chld : ∀ j, par p1 j → j ≠ 2 * p1 + 1 → j = 2 * p1 + 1 + 1 := fun j q c => q.resolve_left c
  show (decide (((2 * p1 + 1 : Nat) : Int) < (l.length : Int)) = true → _) ∧ (decide (((2 * p1 + 1 : Nat) : Int) < (l.length : Int)) = false → _)
  refine ⟨fun q => ?_, fun q => ?_⟩
  · have q : 2 * p1 + 1 < l.length := Int.ofNat_lt.mp (of_decide_eq_true q)
    have hv1 := List.getElem?_eq_getElem (l := l1) (i := 2 * p1 + 1) (by exact ar188 hl1 q)
    have pc1 : par p1 (2 * p1 + 1) := .inl rfl
    have nxt : ∀ (c : Nat) (v : Hd) (a : Option D), par p1 c → c < l.length → l1[c]? = some v → (∀ j b, par p1 j → j ≠ c → l1[j]? = some b → leH v b) → ∃ m, m < l.length - p1 ∧ UI x j s l μ m (rhoU j c l.length s (hdD x) (2 * c + 1) a) (muH μ j (l1.set p1 v)) :=
      fun c v a pc cl hv hmin => ⟨l.length - c, Nat.sub_lt_sub_left (hl1 ▸ hp1) pc.lt, .mk (l1.set p1 v) c a rfl rfl (h1.down pc hv hmin) ((List.length_set ..).trans hl1) ((swap_perm (Nat.ne_of_lt pc.lt) hp1 hv).trans h3) rfl⟩
    show (decide (((2 * p1 + 1 + 1 : Nat) : Int) < (l.length : Int)) = true → _) ∧ (decide (((2 * p1 + 1 + 1 : Nat) : Int) < (l.length : Int)) = false → _)
    refine ⟨fun q2 => ?_, fun q2 => ⟨fun c => (nomatch c), fun zz => ?_⟩⟩
    · have q2 : 2 * p1 + 1 + 1 < l.length := Int.ofNat_lt.mp (of_decide_eq_true q2)
      have hv2 := List.getElem?_eq_getElem (l := l1) (i := 2 * p1 + 1 + 1) (by exact ar189 hl1 q2)
      have pc2 : par p1 (2 * p1 + 1 + 1) := .inr rfl
      refine getMuI (muH_at hj l1) (atDI (Int.natCast_nonneg _) (hdAt hv1) ?_)
      refine getMuI (muH_at hj l1) (atDI (Int.natCast_nonneg _) (hdAt hv2) ?_)
      have hne : l1[2 * p1 + 1].i ≠ l1[2 * p1 + 1 + 1].i := apart2 h3 hn ((get_other (Nat.ne_of_lt pc1.lt)).trans hv1) ((get_other (Nat.ne_of_lt pc2.lt)).trans hv2) (Nat.ne_of_lt (Nat.lt_succ_self _))
      refine lt_head hne ⟨fun c => ?_, fun c => ?_⟩
      · refine up_step (c := 2 * p1 + 1 + 1) hj hp1 hv2 (by exact ar191 hz q2) (nxt _ _ _ pc2 q2 hv2 fun j b q3 q4 q5 => ?_)
        obtain rfl : j = 2 * p1 + 1 := q3.resolve_right q4
        rw [hv1] at q5; cases q5
        rw [Bool.not_eq_true'] at c; exact c
      · refine up_step hj hp1 hv1 (by exact ar192 hz q2) (nxt _ _ _ pc1 q hv1 fun j b q3 q4 q5 => ?_)
        obtain rfl := chld j q3 q4
        rw [hv2] at q5; cases q5
        rw [Bool.not_eq_false'] at c; exact leH_of c
    · have q2 : ¬ 2 * p1 + 1 + 1 < l.length := fun c => of_decide_eq_false q2 (Int.ofNat_lt.mpr c)
      refine up_step hj hp1 hv1 (by exact ar193 hz q) (nxt _ _ _ pc1 q hv1 fun j b q3 q4 q5 => ?_)
      have := chld j q3 q4
      have := (List.getElem?_eq_some_iff.mp q5).1
      exact absurd this (by exact ar194 hl1 q2 ‹_›)
  · have q : ¬ 2 * p1 + 1 < l.length := fun c => of_decide_eq_false q (Int.ofNat_lt.mpr c)
    refine getMuI (muH_at hj l1) ⟨⟨Int.natCast_nonneg _, by rw [List.length_map]; exact Int.ofNat_lt.mpr hp1⟩, ?_⟩
    refine c_down H (l := l1.set p1 x) (x := x) (μ := _) ?_ (h1.setAt x) (List.getElem?_set_self hp1) (fun j b q2 q3 => ?_) (((h3.map Hd.i).nodup_iff).mpr hn) fun l' q2 q3 => ?_
    · rw [← muH_at hj (l1.set p1 x), ← muH_set]; rfl
    · have := (List.getElem?_eq_some_iff.mp q3).1
      rw [List.length_set] at this
      have := q2.elim (fun c => c) fun c => by exact ar195 hl1 q this c
      omega
    · have := hQ l' (q2.trans h3) q3
      rw [muH_twice]; exact this
end
section
open Classical
variable {G : GG} {k n : Nat} {μ : Mu} {Q : D → Mu → Prop} {X : List Nat → Mu → Prop}
theorem Hp.tail {α : Type} {le : α → α → Prop} {l : List α} {x : α} (h : Hp le 0 l) : Hp le 1 (l.set 0 x) := fun i j q si a b ha hb => by
  rw [get_other (Nat.ne_of_lt si)] at ha
  rw [get_other (Nat.ne_of_lt (Nat.lt_trans si q.lt))] at hb
  exact h i j q (Nat.zero_le _) a b ha hb
theorem c_replace (H : Oks G) {j : Nat} {t : List Hd} {h y : Hd} (hm : μ[j]? = some (some ((h :: t).map hdD))) (hp : HpH 0 (h :: t)) (hz : t.length < 1000) (hn : ((y :: t).map Hd.i).Nodup)
    (hQ : ∀ l', l'.Perm (y :: t) → HpH 0 l' → Q (hdD h) (muH μ j l')) : callC G (k + 6) .replace [.mut j, hdD y] μ Q X := by
  refine go (H _).1 (H _).2 "heapreplace" [] [] ["heap", "item"] [some (.mut j), some (hdD y), none] (by kernel_rfl) (by kernel_rfl) (by kernel_rfl) rfl (bind_pure fun pm code doc vs hl => by obtain ⟨v, u, rfl⟩ := len2 hl; kernel_rfl) t_heapreplace (by kernel_rfl) ?_
  have hj : j < μ.length := (List.getElem?_eq_some_iff.mp hm).1
  refine getMuI hm (atDI (Int.le_refl _) rfl ?_)
  refine getMuI hm ⟨⟨Int.le_refl _, Int.ofNat_lt.mpr (Nat.succ_pos _)⟩, ?_⟩
  refine c_up H (s := 0) (l := y :: t) (List.getElem?_set_self hj) hp.tail (Nat.succ_pos _) hz hn fun l' q1 q2 => ?_
  have := hQ l' q1 q2
  unfold muH at this ⊢
  rw [List.set_set]; exact this
theorem c_pop (H : Oks G) {j : Nat} {t : List Hd} {h : Hd} (hm : μ[j]? = some (some ((h :: t).map hdD))) (hp : HpH 0 (h :: t)) (hz : t.length < 1000) (hn : ((h :: t).map Hd.i).Nodup)
    (hQ : ∀ l', l'.Perm t → HpH 0 l' → Q (hdD h) (muH μ j l')) : callC G (k + 6) .pop [.mut j] μ Q X := by
  refine go (H _).1 (H _).2 "heappop" [] [] ["heap"] [some (.mut j), none, none] (by kernel_rfl) (by kernel_rfl) (by kernel_rfl) rfl (bind_pure fun pm code doc vs hl => by obtain ⟨v, rfl⟩ := len1 hl; kernel_rfl) t_heappop (by kernel_rfl) ?_
  have hj : j < μ.length := (List.getElem?_eq_some_iff.mp hm).1
  refine ⟨⟨j, rfl⟩, rfl, getMuI hm ⟨List.cons_ne_nil _ _, fun d e => ?_⟩⟩
  have hm2 := List.getElem?_set_self (a := some ((h :: t).map hdD).dropLast) hj
  refine getMuI hm2 ?_
  cases t with
  | nil =>
    cases e
    exact ⟨fun q => (ff_tt q), fun zz => hQ [] (.refl _) fun i j q zz a b c => by cases c⟩
  | cons t0 t =>
    obtain ⟨s, z, ez⟩ : ∃ s z, t0 :: t = s ++ [z] := ⟨_, _, (List.dropLast_concat_getLast (List.cons_ne_nil t0 t)).symm⟩
    have e1 : ((h :: t0 :: t).map hdD) = ((h :: s).map hdD) ++ [hdD z] := by rw [ez]; show _ :: List.map hdD (s ++ [z]) = _; rw [List.map_append]; rfl
    rw [e1, List.getLast?_concat] at e
    cases e
    rw [e1, List.dropLast_concat]
    rw [e1, List.dropLast_concat] at hm2
    refine ⟨fun zz => ?_, fun q => (nomatch q)⟩
    refine getMuI hm2 (atDI (Int.le_refl _) rfl ?_)
    refine getMuI hm2 ⟨⟨Int.le_refl _, Int.ofNat_lt.mpr (Nat.succ_pos _)⟩, ?_⟩
    have hz2 : s.length + 1 = t.length + 1 := by
      have := congrArg List.length ez
      rw [List.length_append] at this; exact this.symm
    have hperm : (z :: s).Perm (t0 :: t) := by rw [ez]; exact List.perm_append_singleton z s |>.symm
    refine c_up H (s := 0) (l := z :: s) (List.getElem?_set_self (by rw [List.length_set]; exact hj)) (fun i j q si a b ha hb => ?_) (Nat.succ_pos _) (by show s.length + 1 ≤ 1000; rw [hz2]; exact Nat.le_of_lt hz) ?_ fun l' q1 q2 => ?_
    · have hi : ∀ {i : Nat} {a : Hd}, 1 ≤ i → (z :: s)[i]? = some a → (h :: t0 :: t)[i]? = some a := fun {i a} si ha => by
        obtain ⟨i, rfl⟩ : ∃ i', i = i' + 1 := ⟨i - 1, (Nat.sub_add_cancel si).symm⟩
        rw [ez]
        show (s ++ [z])[i]? = some a
        rw [List.getElem?_append_left (List.getElem?_eq_some_iff.mp (show s[i]? = some a from ha)).1]; exact ha
      exact hp i j q (Nat.zero_le _) a b (hi si ha) (hi (Nat.le_trans si (Nat.le_of_lt q.lt)) hb)
    · exact ((hperm.map Hd.i).nodup_iff).mpr (List.nodup_cons.mp hn).2
    · have := hQ l' (q1.trans hperm) q2
      unfold muH at this ⊢
      rw [List.set_set, List.set_set]; exact this
theorem heaps (H : Oks G) {j : Nat} {x : Option D} {Q : FQ} {X : MX} : ∀ (m : Nat) (l : List Hd) (w : Option D), j < μ.length → HpH m l → m ≤ l.length → l.length ≤ 1000 → (l.map Hd.i).Nodup →
    (∀ l' w, l'.Perm l → HpH 0 l' → Q .next [some (.mut j), x, w] (muH μ j l')) →
    forC (step1 2 (vSeq (vExpr G (k + 4) (PE.call Fn.up [PE.loc 0, PE.loc 2])) vSkip) X) (rangeD (m : Nat)).reverse [some (.mut j), x, w] (muH μ j l) Q
  | 0, l, w, _, h, _, _, _, hQ => hQ l w (.refl _) h
  | m + 1, l, w, hj, h, hl, hz, hn, hQ => by
    have e : (rangeD ((m + 1 : Nat) : Int)).reverse = .int (m : Nat) :: (rangeD (m : Nat)).reverse := by
      show (((List.range (m + 1)).map fun i => D.int (i : Nat))).reverse = _
      rw [List.range_succ, List.map_append, List.reverse_append]; rfl
    rw [e]
    refine c_up H (l := l) (muH_at hj l) h hl hz hn fun l' q1 q2 => ?_
    show forC _ _ _ _ _
    rw [show muH (muH μ j l) j l' = muH μ j l' from List.set_set ..]
    refine heaps H m l' _ hj q2 ?_ ?_ (((q1.map Hd.i).nodup_iff).mpr hn) fun l'' w p => hQ l'' w (p.trans q1)
    · rw [q1.length_eq]; exact Nat.le_of_succ_le hl
    · rw [q1.length_eq]; exact hz
theorem half {p : Prop} (l : List Hd) (i j : Nat) (q : par i j) (si : l.length / 2 ≤ i) (h : j < l.length) : p := by
  have : 2 * i + 1 ≤ j := q.elim (fun c => Nat.le_of_eq c.symm) fun c => c ▸ Nat.le_succ _
  omega
theorem c_heapify (H : Oks G) {j : Nat} {l : List Hd} (hm : μ[j]? = some (some (l.map hdD))) (hz : l.length ≤ 1000) (hn : (l.map Hd.i).Nodup)
    (hQ : ∀ l', l'.Perm l → HpH 0 l' → Q .none (muH μ j l')) : callC G (k + 6) .heapify [.mut j] μ Q X := by
  refine go (H _).1 (H _).2 "heapify" [] [] ["x"] [some (.mut j), none, none] (by kernel_rfl) (by kernel_rfl) (by kernel_rfl) rfl (bind_pure fun pm code doc vs hl => by obtain ⟨v, rfl⟩ := len1 hl; kernel_rfl) t_heapify (by kernel_rfl) ?_
  have hj : j < μ.length := (List.getElem?_eq_some_iff.mp hm).1
  have hμ : μ = muH μ j l := by
    have e := (List.getElem?_eq_some_iff.mp hm).2
    unfold muH; rw [← e, List.set_getElem_self]
  refine getMuI hm ⟨by decide, ?_⟩
  rw [List.length_map]
  refine ⟨⟨Int.natCast_nonneg _, by show ((l.length / 2 : Nat) : Int) ≤ 1000000; exact ar196 hz⟩, ?_⟩
  have := heaps (k := k) (x := some (.int (l.length : Nat))) (X := fun m zz => X m) (Q := thenQ (fun ρ' μ' => vSkip ρ' μ' (endQ Q) fun m x => X m) (endQ Q)) H (l.length / 2) l none hj (fun i j q si a b ha hb => half l i j q si (List.getElem?_eq_some_iff.mp hb).1) (Nat.div_le_self _ _) hz hn fun l' w p h => hQ l' p h
  rw [← hμ] at this
  exact this
end
section
open Classical
variable {G : GG} {k n : Nat} {μ : Mu} {ρ : Rho} {Q : D → Mu → Prop} {X : List Nat → Mu → Prop}
noncomputable abbrev natsD (l : List Nat) : D := .list (l.map fun c => .int (c : Nat))
theorem put_comm (a b : Option D) : ∀ (ρ : Rho) (i j : Nat), i ≠ j → put (put ρ i a) j b = put (put ρ j b) i a
  | [], 0, 0, h => absurd rfl h
  | [], 0, _ + 1, _ => rfl
  | [], _ + 1, 0, _ => rfl
  | [], _ + 1, _ + 1, _ => rfl
  | _ :: _, 0, 0, h => absurd rfl h
  | _ :: _, 0, _ + 1, _ => rfl
  | _ :: _, _ + 1, 0, _ => rfl
  | x :: r, i + 1, j + 1, h => congrArg (x :: ·) (put_comm a b r i j fun e => h (e ▸ rfl))
theorem put_len (a : Option D) : ∀ (ρ : Rho) (i : Nat), (put ρ i a).length = ρ.length
  | [], 0 => rfl
  | [], _ + 1 => rfl
  | _ :: _, 0 => rfl
  | _ :: r, i + 1 => congrArg Nat.succ (put_len a r i)
theorem put_self {i : Nat} {d : Option D} (h : i < ρ.length) : look (put ρ i d) i = d := by rw [look_put]; exact if_pos ⟨rfl, h⟩
theorem ords_ok : ∀ (g : List Nat) {K : List (Option D) → Mu → Prop}, K (g.map fun c => some (.int (c : Nat))) μ →
    seqC (fun d μ₂ K => vcIfs G k [] (put (capRho ρ [none, none]) 1 (some d)) μ₂ (fun ok μ₃ => (ok = true → vcE G k (PE.bi Bi.ord [PE.loc 1]) (put (capRho ρ [none, none]) 1 (some d)) μ₃ (fun y => K (some y)) (fun zz zz => False)) ∧ (ok = false → K none μ₃)) (fun zz zz => False)) (g.map fun c => .str [c]) μ K
  | [], _, h => h
  | c :: g, _, h => ⟨fun zz => ⟨c, rfl, ords_ok g h⟩, fun q => nomatch q⟩
theorem opts_some : ∀ l : List Nat, optsD (l.map fun c => some (D.int (c : Nat))) = l.map fun c => D.int (c : Nat)
  | [] => rfl
  | c :: r => congrArg (D.int (c : Nat) :: ·) (opts_some r)
theorem encN_len : ∀ {gs : List Name}, (∀ g ∈ gs, GoodN g) → (encN gs).length ≤ 4 * gs.length
  | [], _ => Nat.le_refl _
  | g :: r, h => by
    have h1 := (h g (.head _)).len
    have h2 := encN_len fun g m => h g (.tail _ m)
    show (g ++ encN r).length + 1 ≤ 4 * (r.length + 1)
    rw [List.length_append]; exact ar197 h1 h2
theorem name_loop {o t : Nat} (hne : o ≠ t) {Q : FQ} {X : MX} : ∀ (gs : List Name) (ρ : Rho) (acc : List Nat) (w : Option D), o < ρ.length → t < ρ.length → (∀ g ∈ gs, GoodN g) → acc.length + 4 * gs.length ≤ 1000000 →
    (∀ w, Q .next (put (put ρ t w) o (some (natsD (acc ++ encN gs)))) μ) →
    forC (step1 t (vSeq (vSet G k o (PE.bin Bop.add (PE.bin Bop.add (PE.loc o) (PE.list false [PE.bi Bi.len [PE.loc t]])) (PE.lc false (PE.bi Bi.ord [PE.loc 1]) [none, none] 1 false (PE.loc t) []))) vSkip) X) (gs.map .str) (put (put ρ t w) o (some (natsD acc))) μ Q
  | [], ρ, acc, w, _, _, _, _, h => by
    have := h w
    rw [show acc ++ encN [] = acc from List.append_nil _] at this; exact this
  | g :: r, ρ, acc, w, ho, ht, hg, hz, h => by
    show vSeq _ _ _ _ _ _
    rw [put_comm _ _ _ _ _ hne, put_put 0]
    have gl := (hg g (.head _)).len
    have hz : acc.length + 4 * (r.length + 1) ≤ 1000000 := hz
    have e1 : look (put (put ρ t (some (.str g))) o (some (natsD acc))) o = some (natsD acc) := put_self (by rw [put_len]; exact ho)
    have e2 : look (put (put ρ t (some (.str g))) o (some (natsD acc))) t = some (.str g) := by rw [put_other hne]; exact put_self ht
    show match look (put (put ρ t (some (.str g))) o (some (natsD acc))) o with | some d => _ | none => False
    rw [e1]
    show match look (put (put ρ t (some (.str g))) o (some (natsD acc))) t with | some d => _ | none => False
    rw [e2]
    refine ⟨Nat.le_of_ble_eq_true rfl, ?_⟩
    refine ⟨by rw [List.length_map]; show _ + 1 ≤ big; unfold big; exact ar198 hz, ?_⟩
    show match look (put (put ρ t (some (.str g))) o (some (natsD acc))) t with | some d => _ | none => False
    rw [e2]
    refine ⟨by rw [List.length_map]; exact ar199 gl, ?_⟩
    refine ords_ok g ?_
    rw [if_neg Bool.false_ne_true, opts_some]
    refine ⟨by rw [List.length_append, List.length_map, List.length_map]; show _ + 1 + _ ≤ big; unfold big; exact ar200 gl hz, ?_⟩
    have e3 : (acc.map fun c => D.int (c : Nat)) ++ [D.int (g.length : Nat)] ++ (g.map fun c => D.int (c : Nat)) = (acc ++ g.length :: g).map fun c => D.int (c : Nat) := by rw [List.map_append, List.append_assoc]; rfl
    rw [e3]
    show forC _ _ (put _ o _) _ _
    rw [put_put 0]
    refine name_loop hne r ρ (acc ++ g.length :: g) (some (.str g)) ho ht (fun g m => hg g (.tail _ m)) ?_ fun w => ?_
    · rw [List.length_append]; show _ + (g.length + 1) + _ ≤ _; exact ar201 gl hz
    · have := h w
      rw [List.append_assoc]
      exact this
end
section
open Classical
variable {G : GG} {k n : Nat} {μ : Mu} {ρ : Rho} {Q : D → Mu → Prop} {X : List Nat → Mu → Prop}
noncomputable abbrev Due := List (List Name × Nat)
noncomputable abbrev rowD (r : List Name × Nat) : D := .tup [strsD r.1, .int (r.2 : Nat)]
structure GoodD (due : Due) : Prop where
  all : ∀ r ∈ due, GoodP r.1 ∧ r.2 < 256
  len : due.length ≤ 1000
theorem encR_len {last ns : List Name} {m : Nat} (g : GoodP ns) : (encR last ns m).length ≤ 15 := by
  have h1 := encN_len (gs := ns.drop (sameN last ns)) fun g' h => g.all g' (List.mem_of_mem_drop h)
  rw [List.length_drop] at h1
  have := g.len
  show (encN (ns.drop (sameN last ns))).length + 3 ≤ 15
  exact ar202 h1 this
theorem sub_nat {a b : Nat} (h : b ≤ a) : (a : Int) - (b : Int) = ((a - b : Nat) : Int) := (Int.ofNat_sub h).symm
theorem c_rows_loop (H : Oks G) {x0 : Option D} {Q : FQ} {X : MX} : ∀ (due : Due) (acc : List Nat) (last : List Name) (x3 x4 x5 x6 : Option D), (∀ r ∈ due, GoodP r.1 ∧ r.2 < 256) → acc.length + 20 * due.length ≤ 100000 →
    (∀ l x3 x4 x5 x6, Q .next [x0, some (natsD (acc ++ encs last due)), l, x3, x4, x5, x6] μ) →
    forC (step2 3 4 (vSeq (vSet G (k + 2) 5 (PE.call Fn.same [PE.loc 2, PE.loc 3])) (vSeq (vSet G (k + 2) 1 (PE.bin Bop.add (PE.loc 1) (PE.list false [PE.loc 4, PE.bin Bop.sub (PE.bi Bi.len [PE.loc 2]) (PE.loc 5), PE.bin Bop.sub (PE.bi Bi.len [PE.loc 3]) (PE.loc 5)])))
      (vSeq (vFor G (k + 2) 6 false ((PE.loc 3).sfrom (PE.loc 5)) (vSeq (vSet G (k + 2) 1 (PE.bin Bop.add (PE.bin Bop.add (PE.loc 1) (PE.list false [PE.bi Bi.len [PE.loc 6]])) (PE.lc false (PE.bi Bi.ord [PE.loc 1]) [none, none] 1 false (PE.loc 6) []))) vSkip)) (vSeq (vSet G (k + 2) 2 (PE.loc 3)) vSkip)))) X)
      (due.map rowD) [x0, some (natsD acc), some (strsD last), x3, x4, x5, x6] μ Q
  | [], acc, last, x3, x4, x5, x6, _, _, h => by
    have := h (some (strsD last)) x3 x4 x5 x6
    rw [show acc ++ encs last [] = acc from List.append_nil _] at this; exact this
  | r :: due, acc, last, x3, x4, x5, x6, hg, hz, h => by
    obtain ⟨g1, g2⟩ := hg r (.head _)
    obtain ⟨s1, s2⟩ := sameN_le last r.1
    have hz : acc.length + 20 * (due.length + 1) ≤ 100000 := hz
    have hn := g1.len
    have hr := encR_len (last := last) (m := r.2) g1
    refine ⟨strsD r.1, .int (r.2 : Nat), rfl, ?_⟩
    refine c_same H ?_
    refine ⟨Nat.le_of_ble_eq_true rfl, by rw [List.length_map]; show _ + 3 ≤ big; unfold big; exact ar203 hz, ?_⟩
    refine ⟨⟨Int.natCast_nonneg _, by show ((sameN last r.1 : Nat) : Int) ≤ 16777216; exact ar204 s2 hn⟩, ?_⟩
    rw [List.length_map, List.length_map, sub_nat s1, sub_nat s2]
    have e1 : (r.1.map D.str).drop ((sameN last r.1 : Nat) : Int).toNat = (r.1.drop (sameN last r.1)).map D.str := List.map_drop.symm
    have e2 : (acc.map fun c => D.int (c : Nat)) ++ [D.int (r.2 : Nat), D.int ((last.length - sameN last r.1 : Nat) : Int), D.int ((r.1.length - sameN last r.1 : Nat) : Int)] = (acc ++ [r.2, last.length - sameN last r.1, r.1.length - sameN last r.1]).map fun c => D.int (c : Nat) := by rw [List.map_append]; rfl
    rw [e1, e2]
    refine name_loop (o := 1) (t := 6) (by decide) (r.1.drop (sameN last r.1)) [x0, none, some (strsD last), some (strsD r.1), some (.int (r.2 : Nat)), some (.int (sameN last r.1 : Nat)), none] _ x6 (Nat.le_of_ble_eq_true rfl) (Nat.le_of_ble_eq_true rfl) (fun g m => g1.all g (List.mem_of_mem_drop m)) ?_ fun w => ?_
    · rw [List.length_append, List.length_drop]; show _ + 3 + _ ≤ _; exact ar205 hz hn
    · refine c_rows_loop H due _ r.1 (some (strsD r.1)) _ _ w (fun r m => hg r (.tail _ m)) ?_ fun l x3 x4 x5 x6 => ?_
      · have : (acc ++ [r.2, last.length - sameN last r.1, r.1.length - sameN last r.1] ++ encN (r.1.drop (sameN last r.1))).length = acc.length + (encR last r.1 r.2).length := by rw [List.append_assoc, List.length_append]; rfl
        rw [this]; exact ar206 hz hr
      · have := h l x3 x4 x5 x6
        rw [List.append_assoc, List.append_assoc]
        exact this
theorem encs_small : ∀ {due : Due} {last : List Name}, GoodP last → (∀ r ∈ due, GoodP r.1 ∧ r.2 < 256) → (∀ c ∈ encs last due, c < 256) ∧ (encs last due).length ≤ 15 * due.length
  | [], _, _, _ => ⟨fun zz h => (nomatch h), Nat.le_refl _⟩
  | r :: due, last, gl, h => by
    obtain ⟨g1, g2⟩ := h r (.head _)
    obtain ⟨i1, i2⟩ := encs_small (due := due) g1 fun r m => h r (.tail _ m)
    have hr := encR_len (last := last) (m := r.2) g1
    refine ⟨fun c m => ?_, ?_⟩
    · rcases List.mem_append.mp m with m | m
      · rcases List.mem_cons.mp m with rfl | m
        · exact g2
        rcases List.mem_cons.mp m with rfl | m
        · have := gl.len; exact ar175 this
        rcases List.mem_cons.mp m with rfl | m
        · have := g1.len; exact ar175 this
        · exact small_encN (fun g m => g1.all g (List.mem_of_mem_drop m)) c m
      · exact i1 c m
    · show (encR last r.1 r.2 ++ encs r.1 due).length ≤ 15 * (due.length + 1)
      rw [List.length_append]; exact ar207 i2 hr
where small_encN : ∀ {gs : List Name}, (∀ g ∈ gs, GoodN g) → ∀ c ∈ encN gs, c < 256
  | [], _, _, m => nomatch m
  | g :: r, h, c, m => by
    have gg := h g (.head _)
    rcases List.mem_cons.mp m with rfl | m
    · have := gg.len; exact ar168 this
    rcases List.mem_append.mp m with m | m
    · exact gg.small c m
    · exact small_encN (fun g m => h g (.tail _ m)) c m
theorem nats_bts {l : List Nat} (h : ∀ c ∈ l, c < 256) : (l.map fun c => D.int (c : Nat)) = (bts l).map fun b => D.int (b.toNat : Nat) := by
  unfold bts
  rw [List.map_map]
  exact List.map_congr_left fun c m => by show _ = D.int ((UInt8.ofNat c).toNat : Nat); rw [ofNat_nat (h c m)]
theorem c_written (H : Oks G) {due : Due} (g : GoodD due) (h : Q (.bytes (bts (encs [] due))) μ) : callC G (k + 4) .written [.list (due.map rowD)] μ Q X := by
  refine go (H _).1 (H _).2 "_law_written" [] [] ["rows"] [some (.list (due.map rowD)), none, none, none, none, none, none] (by kernel_rfl) (by kernel_rfl) (by kernel_rfl) rfl (bind_pure fun pm code doc vs hl => by obtain ⟨v, rfl⟩ := len1 hl; kernel_rfl) t_written (by kernel_rfl) ?_
  obtain ⟨i1, i2⟩ := encs_small (last := []) ⟨Nat.zero_le _, fun g m => (nomatch m)⟩ g.all
  have gl := g.len
  refine ⟨Nat.le_of_ble_eq_true rfl, Nat.le_of_ble_eq_true rfl, ?_⟩
  refine c_rows_loop H due [] [] none none none none g.all (by show 0 + _ ≤ _; exact ar208 gl) fun l x3 x4 x5 x6 => ?_
  refine ⟨bts (encs [] due), nats_bts i1, by unfold bts; rw [List.length_map]; unfold big; lia, h⟩
end
section
open Classical
variable {G : GG} {k n : Nat} {μ : Mu} {ρ : Rho} {Q : D → Mu → Prop} {X : List Nat → Mu → Prop}
theorem cutN_none : ∀ {gs : List Name} {n : Nat}, cutN gs n = none → (encN gs).length ≤ n
  | [], _, _ => Nat.zero_le _
  | _ :: _, 0, h => nomatch h
  | g :: r, n + 1, h => by
    unfold cutN at h
    by_cases q : n < g.length
    · rw [if_pos q] at h; cases h
    · rw [if_neg q] at h
      have := cutN_none h
      show (g ++ encN r).length + 1 ≤ n + 1
      rw [List.length_append]; exact ar209 q this
noncomputable abbrev rhoT (x0 : Option D) (t cut : Nat) (last : Option D) (spot : Nat) (x6 x7 x8 : Option D) : Rho := [x0, some (.int (cut : Nat)), some (.str plainW), some (.mut t), last, some (.int (spot : Nat)), x6, x7, x8]
theorem dec_nat (a b : Nat) {p q : Prop} (h1 : a < b → p) (h2 : b ≤ a → q) : (decide ((a : Int) < (b : Int)) = true → p) ∧ (decide ((a : Int) < (b : Int)) = false → q) :=
  ⟨fun h => h1 (Int.ofNat_lt.mp (of_decide_eq_true h)), fun h => h2 (Nat.not_lt.mp fun c => of_decide_eq_false h (Int.ofNat_lt.mpr c))⟩
theorem told_names {x0 last x6 x7 : Option D} {t cut : Nat} {acc : List D} {Q : FQ} {X : MX} (hμ : μ[t]? = some (some acc)) (hc : cut ≤ 100000) : ∀ (gs : List Name) (spot : Nat) (x8 : Option D), spot ≤ cut → (∀ g ∈ gs, GoodN g) →
    (∀ w ρ, cutN gs (cut - spot) = some w → Q (.ret (.tup [.list acc, .str w])) ρ (μ.set t none)) → (cutN gs (cut - spot) = none → ∀ x8, Q .next (rhoT x0 t cut last (spot + (encN gs).length) x6 x7 x8) μ) →
    forC (step1 8 (vSeq (vAug G k 5 Bop.add (PE.int 1)) (vSeq (vIf G k (PE.cmp Cop.gt (PE.loc 5) (PE.loc 1)) (vSeq (vFrz 3 (vRet G k (PE.tup [PE.loc 3, PE.loc 2]))) vSkip) vSkip) (vSeq (vIf G k (PE.cmp Cop.gt (PE.bin Bop.add (PE.loc 5) (PE.bi Bi.len [PE.loc 8])) (PE.loc 1))
      (vSeq (vFrz 3 (vRet G k (PE.tup [PE.loc 3, PE.bin Bop.add (PE.bin Bop.add (PE.bin Bop.add (PE.bin Bop.add (PE.str [101, 120, 112, 101, 99, 116, 101, 100, 32]) (PE.bi Bi.str [PE.bi Bi.len [PE.loc 8]])) (PE.str [32, 98, 121, 116, 101, 115, 32, 105, 110, 32, 97, 32, 115, 116, 114, 105, 110, 103, 49, 44, 32, 98, 117, 116, 32, 111, 110, 108, 121, 32])) (PE.bi Bi.str [PE.bin Bop.sub (PE.loc 1) (PE.loc 5)])) (PE.str [32, 114, 101, 109, 97, 105, 110])]))) vSkip) vSkip) (vSeq (vAug G k 5 Bop.add (PE.bi Bi.len [PE.loc 8])) vSkip)))) X)
      (gs.map .str) (rhoT x0 t cut last spot x6 x7 x8) μ Q
  | [], spot, x8, _, _, _, h => h rfl x8
  | g :: r, spot, x8, hs, hg, h1, h2 => by
    have gl := (hg g (.head _)).len
    refine dec_nat cut (spot + 1) (fun q => ?_) fun q => ?_
    · refine getMuI hμ ⟨Nat.le_of_ble_eq_true rfl, ?_⟩
      exact h1 plainW _ (by rw [Nat.sub_eq_zero_of_le (Nat.le_of_lt_succ q)]; rfl)
    obtain ⟨n, hn⟩ : ∃ n, cut - spot = n + 1 := ⟨cut - spot - 1, by exact ar210 q⟩
    have hn2 : cut - (spot + 1) = n := by exact ar211 hn
    refine dec_nat cut (spot + 1 + g.length) (fun q2 => ?_) fun q2 => ?_
    · have ei : (cut : Int) - ((spot : Int) + 1) = (n : Nat) := by exact ar212 hn
      have t1 := tl (x := (g.length : Nat)) ⟨Int.natCast_nonneg _, by exact ar213 gl⟩
      have hb : (0 : Int) ≤ (cut : Int) - ((spot : Int) + 1) ∧ (cut : Int) - ((spot : Int) + 1) < 1000000000 := by exact ar214 gl q2 ei
      have t2 := tl hb
      have hw := h1 (wordsW g.length n) (put (rhoT x0 t cut last (spot + 1) x6 x7 (some (.str g))) 3 (some (.list acc))) (by rw [hn]; exact if_pos (by exact ar215 q2 ei))
      unfold wordsW at hw
      rw [← ei] at hw
      refine getMuI hμ ⟨⟨Int.natCast_nonneg _, by exact ar213 gl⟩, by show 9 + _ ≤ 16777216; exact ar216 t1, by rw [List.length_append]; show 9 + _ + 30 ≤ 16777216; exact ar217 t1, hb, by rw [List.length_append, List.length_append]; show 9 + _ + 30 + _ ≤ 16777216; exact ar218 t1 t2, by rw [List.length_append, List.length_append, List.length_append]; show 9 + _ + 30 + _ + 7 ≤ 16777216; exact ar115 t1 t2, Nat.le_of_ble_eq_true rfl, ?_⟩
      exact hw
    · have hcut : cutN (g :: r) (cut - spot) = cutN r (cut - (spot + 1 + g.length)) := by
        rw [hn]
        show (if n < g.length then _ else _) = _
        rw [if_neg (by exact ar219 hn2 q2), show n - g.length = cut - (spot + 1 + g.length) by exact ar220 hn2]
      refine told_names hμ hc r (spot + 1 + g.length) _ q2 (fun g m => hg g (.tail _ m)) (fun w ρ e => h1 w ρ (hcut.trans e)) fun e x8 => ?_
      have := h2 (hcut.trans e) x8
      rw [show spot + (encN (g :: r)).length = spot + 1 + g.length + (encN r).length from by show spot + ((g ++ encN r).length + 1) = _; rw [List.length_append]; simp +arith] at this
      exact this
end
section
open Classical
variable {G : GG} {k n : Nat} {μ : Mu} {ρ : Rho} {Q : D → Mu → Prop} {X : List Nat → Mu → Prop}
noncomputable abbrev toldB (G : GG) (k : Nat) : VS := vSeq (vAug G k 5 Bop.add (PE.int 3)) (vSeq (vIf G k (PE.cmp Cop.gt (PE.loc 5) (PE.loc 1)) (vSeq (vFrz 3 (vRet G k (PE.tup [PE.loc 3, PE.loc 2]))) vSkip) vSkip) (vSeq (vFor G k 8 false ((PE.loc 6).sfrom (PE.call Fn.same [PE.loc 4, PE.loc 6])) (vSeq (vAug G k 5 Bop.add (PE.int 1)) (vSeq (vIf G k (PE.cmp Cop.gt (PE.loc 5) (PE.loc 1)) (vSeq (vFrz 3 (vRet G k (PE.tup [PE.loc 3, PE.loc 2]))) vSkip) vSkip) (vSeq (vIf G k (PE.cmp Cop.gt (PE.bin Bop.add (PE.loc 5) (PE.bi Bi.len [PE.loc 8])) (PE.loc 1)) (vSeq (vFrz 3 (vRet G k (PE.tup [PE.loc 3, PE.bin Bop.add (PE.bin Bop.add (PE.bin Bop.add (PE.bin Bop.add (PE.str [101, 120, 112, 101, 99, 116, 101, 100, 32]) (PE.bi Bi.str [PE.bi Bi.len [PE.loc 8]])) (PE.str [32, 98, 121, 116, 101, 115, 32, 105, 110, 32, 97, 32, 115, 116, 114, 105, 110, 103, 49, 44, 32, 98, 117, 116, 32, 111, 110, 108, 121, 32])) (PE.bi Bi.str [PE.bin Bop.sub (PE.loc 1) (PE.loc 5)])) (PE.str [32, 114, 101, 109, 97, 105, 110])]))) vSkip) vSkip) (vSeq (vAug G k 5 Bop.add (PE.bi Bi.len [PE.loc 8])) vSkip))))) (vSeq (vExpr G k (PE.me Me.append (PE.loc 3) [PE.tup [PE.loc 7, PE.bin Bop.add (PE.str [47]) (PE.me Me.join (PE.str [47]) [PE.loc 6])]])) (vSeq (vSet G k 4 (PE.loc 6)) vSkip))))
theorem toldF_some {last : List Name} {r : List Name × Nat} {q : Due} {n : Nat} {w : List Nat} (h : recCut last r.1 n = some w) : toldF last (r :: q) n = ([], w) := by
  show (match recCut last r.1 n with | some w => _ | none => _) = _
  rw [h]
theorem toldF_none {last : List Name} {r : List Name × Nat} {q : Due} {n : Nat} (h : recCut last r.1 n = none) : toldF last (r :: q) n = (.tup [.int r.2, .str (pth r.1)] :: (toldF r.1 q (n - (encR last r.1 r.2).length)).1, (toldF r.1 q (n - (encR last r.1 r.2).length)).2) := by
  show (match recCut last r.1 n with | some w => _ | none => _) = _
  rw [h]
theorem told_rows (H : Oks G) {x0 : Option D} {t cut : Nat} {Q : FQ} {X : MX} (hc : cut ≤ 100000) : ∀ (due : Due) (acc : List D) (last : List Name) (spot : Nat) (x6 x7 x8 : Option D) (μ : Mu), μ[t]? = some (some acc) → spot ≤ cut → (∀ r ∈ due, GoodP r.1 ∧ r.2 < 256) → acc.length + due.length ≤ 1000 →
    (∀ R w, R = (acc ++ (toldF last due (cut - spot)).1) → w = (toldF last due (cut - spot)).2 → (∀ ρ, Q (.ret (.tup [.list R, .str w])) ρ (μ.set t none)) ∧ (w = plainW → ∀ l s x6 x7 x8, Q .next (rhoT x0 t cut l s x6 x7 x8) (μ.set t (some R)))) →
    forC (step2 6 7 (toldB G (k + 2)) X) (due.map rowD) (rhoT x0 t cut (some (strsD last)) spot x6 x7 x8) μ Q
  | [], acc, last, spot, x6, x7, x8, μ, hμ, _, _, _, h => by
    have := (h acc plainW (List.append_nil _).symm rfl).2 rfl (some (strsD last)) spot x6 x7 x8
    rw [← (List.getElem?_eq_some_iff.mp hμ).2, List.set_getElem_self] at this
    exact this
  | r :: due, acc, last, spot, x6, x7, x8, μ, hμ, hs, hg, hz, h => by
    obtain ⟨g1, g2⟩ := hg r (.head _)
    obtain ⟨s1, s2⟩ := sameN_le last r.1
    have l1 := g1.len
    have ht := (List.getElem?_eq_some_iff.mp hμ).1
    have hz : acc.length + (due.length + 1) ≤ 1000 := hz
    refine ⟨strsD r.1, .int (r.2 : Nat), rfl, ?_⟩
    have stop : ∀ w, recCut last r.1 (cut - spot) = some w → ∀ ρ, Q (.ret (.tup [.list acc, .str w])) ρ (μ.set t none) := fun w e ρ => by
      have := (h acc w (by rw [toldF_some e, List.append_nil]) (by rw [toldF_some e])).1 ρ
      exact this
    refine dec_nat cut (spot + 3) (fun q => ?_) fun q => ?_
    · refine getMuI hμ ⟨Nat.le_of_ble_eq_true rfl, ?_⟩
      refine stop plainW ?_ _
      obtain ⟨n, hn⟩ : ∃ n, cut - spot = n := ⟨_, rfl⟩
      rw [hn]
      match n, hn with
      | 0, _ => rfl
      | 1, _ => rfl
      | 2, _ => rfl
      | n + 3, hn => omega
    obtain ⟨n, hn⟩ : ∃ n, cut - spot = n + 3 := ⟨cut - spot - 3, by exact ar221 q⟩
    have hn2 : cut - (spot + 3) = n := by exact ar222 hn
    refine c_same H ?_
    refine ⟨⟨Int.natCast_nonneg _, by show ((sameN last r.1 : Nat) : Int) ≤ 16777216; exact ar204 s2 l1⟩, ?_⟩
    have e1 : (r.1.map D.str).drop ((sameN last r.1 : Nat) : Int).toNat = (r.1.drop (sameN last r.1)).map D.str := List.map_drop.symm
    rw [e1]
    refine told_names hμ hc (r.1.drop (sameN last r.1)) (spot + 3) x8 q (fun g m => g1.all g (List.mem_of_mem_drop m)) (fun w ρ e => stop w (by rw [hn]; rw [hn2] at e; exact e) ρ) fun e x8 => ?_
    have hk : recCut last r.1 (cut - spot) = none := by rw [hn]; rw [hn2] at e; exact e
    have hsum := sum_len g1.all
    have hpl := pth_len g1
    have hle : (encR last r.1 r.2).length ≤ cut - spot := by
      rw [hn2] at e
      have := cutN_none e
      show (encN (r.1.drop (sameN last r.1))).length + 3 ≤ _
      exact ar223 hn this
    refine ⟨⟨t, rfl⟩, ⟨_, rfl⟩, r.1, rfl, by show _ + _ * 1 ≤ _; lia, by unfold pth at hpl; rw [List.length_cons] at hpl; show 1 + _ ≤ 16777216; exact ar185 hpl, Nat.le_of_ble_eq_true rfl, getMuI hμ ⟨by exact ar224 hz, ?_⟩⟩
    have e4 : spot + 3 + (encN (r.1.drop (sameN last r.1))).length = spot + (encR last r.1 r.2).length := by show _ = spot + ((encN (r.1.drop (sameN last r.1))).length + 3); exact Nat.add_right_comm _ _ _
    rw [e4]
    refine told_rows H hc due (acc ++ [.tup [.int r.2, .str (pth r.1)]]) r.1 (spot + (encR last r.1 r.2).length) _ _ _ _ (List.getElem?_set_self ht) (by exact ar225 hle e4) (fun r m => hg r (.tail _ m)) (by rw [List.length_append]; show _ + 1 + _ ≤ _; exact ar226 hz) fun R w e2 e3 => ?_
    rw [show cut - (spot + (encR last r.1 r.2).length) = cut - spot - (encR last r.1 r.2).length from (Nat.sub_sub ..).symm] at e2 e3
    have := h R w (by rw [toldF_none hk, e2, List.append_assoc]; rfl) (by rw [toldF_none hk]; exact e3)
    rw [List.set_set, List.set_set]
    exact this
theorem c_told (H : Oks G) {due : Due} {cut : Nat} (g : GoodD due) (hc : cut ≤ 100000) (h : Q (.tup [.list (toldF [] due cut).1, .str (toldF [] due cut).2]) (μ ++ [none])) : callC G (k + 4) .told [.list (due.map rowD), .int (cut : Nat)] μ Q X := by
  refine go (H _).1 (H _).2 "_law_told" [(236, 1)] [(242, 3), (246, 3), (248, 3), (252, 3)] ["rows", "cut"] [some (.list (due.map rowD)), some (.int (cut : Nat)), none, none, none, none, none, none, none] (by kernel_rfl) (by kernel_rfl) (by kernel_rfl) rfl (bind_pure fun pm code doc vs hl => by obtain ⟨v, u, rfl⟩ := len2 hl; kernel_rfl) t_told (by kernel_rfl) ?_
  refine ⟨Nat.le_of_ble_eq_true rfl, Nat.le_of_ble_eq_true rfl, ?_⟩
  have hμ : (μ ++ [some ([] : List D)])[μ.length]? = some (some []) := List.getElem?_concat_length
  have hset : ∀ o, (μ ++ [some ([] : List D)]).set μ.length o = μ ++ [o] := fun o => by rw [List.set_append_right _ _ (Nat.le_refl _), Nat.sub_self]; rfl
  refine told_rows H hc due [] [] 0 none none none _ hμ (Nat.zero_le _) g.all (by have := g.len; show 0 + _ ≤ _; exact ar227 this) fun R w e2 e3 => ?_
  subst e2 e3
  rw [hset, hset]
  refine ⟨fun ρ => h, fun e l s x6 x7 x8 => ?_⟩
  refine getMuI (List.getElem?_concat_length) ⟨Nat.le_of_ble_eq_true rfl, ?_⟩
  have hset2 : (μ ++ [some (([] : List D) ++ (toldF [] due (cut - 0)).1)]).set μ.length none = μ ++ [none] := by rw [List.set_append_right _ _ (Nat.le_refl _), Nat.sub_self]; rfl
  rw [hset2]
  rw [Nat.sub_zero] at e
  rw [e] at h
  exact h
end
section
open Classical
variable {G : GG} {k n : Nat} {μ : Mu} {ρ : Rho} {Q : D → Mu → Prop} {X : List Nat → Mu → Prop}
theorem cutN_words : ∀ {gs : List Name} {n : Nat} {w : List Nat}, (∀ g ∈ gs, GoodN g) → cutN gs n = some w → w.length ≤ 1000
  | [], _, _, _, h => nosome h
  | _ :: _, 0, _, _, h => by cases h; decide +kernel
  | g :: r, n + 1, w, hg, h => by
    unfold cutN at h
    by_cases q : n < g.length
    · rw [if_pos q] at h; cases h
      have gl := (hg g (.head _)).len
      have t1 := tl (x := (g.length : Nat)) ⟨Int.natCast_nonneg _, by exact ar213 gl⟩
      have t2 := tl (x := (n : Nat)) ⟨Int.natCast_nonneg _, by exact ar228 q gl⟩
      unfold wordsW wordsD
      rw [List.length_append, List.length_append, List.length_append, List.length_append]
      show 9 + _ + 30 + _ + 7 ≤ 1000
      exact ar229 t1 t2
    · rw [if_neg q] at h
      exact cutN_words (fun g m => hg g (.tail _ m)) h
theorem recCut_words {last ns : List Name} {n : Nat} {w : List Nat} (g : GoodP ns) (h : recCut last ns n = some w) : w.length ≤ 1000 := by
  match n, h with
  | 0, h => cases h; decide +kernel
  | 1, h => cases h; decide +kernel
  | 2, h => cases h; decide +kernel
  | n + 3, h => exact cutN_words (fun g' m => g.all g' (List.mem_of_mem_drop m)) h
theorem recCut_none {last ns : List Name} {m n : Nat} (h : recCut last ns n = none) : (encR last ns m).length ≤ n := by
  match n, h with
  | 0, h => cases h
  | 1, h => cases h
  | 2, h => cases h
  | n + 3, h => exact Nat.succ_le_succ (Nat.succ_le_succ (Nat.succ_le_succ (cutN_none h)))
noncomputable abbrev muP (μ : Mu) (p : Nat) (o : Option (List D)) : Mu := μ ++ [some [.int (p : Nat)], o]
theorem muP_1 {p q : Nat} {o : Option (List D)} : (muP μ p o).set μ.length (some [.int (q : Nat)]) = muP μ q o := by unfold muP; rw [List.set_append_right _ _ (Nat.le_refl _), Nat.sub_self]; rfl
theorem muP_2 {p : Nat} {o o' : Option (List D)} : (muP μ p o).set (μ.length + 1) o' = muP μ p o' := by unfold muP; rw [List.set_append_right _ _ (Nat.le_add_right _ 1), Nat.add_sub_cancel_left]; rfl
theorem muP_at {p : Nat} {o : Option (List D)} : (muP μ p o)[μ.length]? = some (some [.int (p : Nat)]) := by unfold muP; rw [List.getElem?_append_right (Nat.le_refl _), Nat.sub_self]; rfl
theorem muP_bt {p : Nat} {o : Option (List D)} : (muP μ p o)[μ.length + 1]? = some o := by unfold muP; rw [List.getElem?_append_right (Nat.le_add_right _ 1), Nat.add_sub_cancel_left]; rfl
inductive PI (due : Due) (cut : Nat) (b : List UInt8) (μ : Mu) (z : Nat) (ρ : Rho) (μ' : Mu) : Prop
  | mk (rest : Due) (acc : List D) (last : List Name) (p n : Nat) (x5 : Option D) (hm : μ' = muP μ p (some acc)) (hr : ρ = [some (.bytes b), some (.strm b μ.length), some (.mut (μ.length + 1)), some (.str (pth last)), some (.str []), x5, none]) (gl : GoodP last) (hp : p ≤ b.length) (hz : acc.length + rest.length ≤ 1000)
      (gr : ∀ r ∈ rest, GoodP r.1 ∧ r.2 < 256) (hb : Rem b p (encs last rest) n) (ht : toldF [] due cut = (acc ++ (toldF last rest n).1, (toldF last rest n).2)) (he : z = rest.length)
theorem c_paths (H : Oks G) {due : Due} {cut : Nat} (g : GoodD due) (h : ∀ q : Nat, Q (.tup [.list (toldF [] due cut).1, .str (toldF [] due cut).2]) (muP μ q none)) : callC G (k + 10) .paths [.bytes ((bts (encs [] due)).take cut)] μ Q X := by
  refine go (H _).1 (H _).2 "_law_paths" [(302, 1)] [(311, 2)] ["octets"] [some (.bytes ((bts (encs [] due)).take cut)), none, none, none, none, none, none] (by kernel_rfl) (by kernel_rfl) (by kernel_rfl) rfl (bind_pure fun pm code doc vs hl => by obtain ⟨v, rfl⟩ := len1 hl; kernel_rfl) t_paths (by kernel_rfl) ?_
  have gn : GoodP [] := ⟨Nat.zero_le _, fun g m => (nomatch m)⟩
  have hlen := (encs_small (last := []) gn g.all).2
  have gl := g.len
  have hbig : ((bts (encs [] due)).take cut).length ≤ big := by rw [List.length_take]; unfold bts big; rw [List.length_map]; lia
  generalize hb : (bts (encs [] due)).take cut = b at hbig
  refine c_stream ?_
  refine ⟨Nat.le_of_ble_eq_true rfl, ?_⟩
  have e1 : (μ ++ [some [D.int 0]]).length = μ.length + 1 := List.length_append
  have e2 : μ ++ [some [D.int 0]] ++ [some []] = muP μ 0 (some []) := List.append_assoc ..
  rw [e1, e2]
  refine ⟨PI due cut b μ, due.length, .mk due [] [] 0 cut none rfl rfl gn (Nat.zero_le _) (by rw [List.length_nil, Nat.zero_add]; exact gl) g.all hb.symm rfl rfl, fun z ρ' μ' hI => ?_⟩
  cases hI with
  | mk rest acc last p n x5 hm hρ gl hp hz gr hr ht he =>
  subst hm; subst hρ; subst he
  refine ⟨fun zz => ?_, fun q => (nomatch q)⟩
  have hat : At (muP μ p (some acc)) b μ.length p := ⟨muP_at, hp, hbig⟩
  have stop : ∀ (w : List Nat) (q : Nat), w.length ≤ 1000 → toldF [] due cut = (acc, w) → w.length ≤ big ∧ vSeq (vFrz 2 (vRet G (k + 8) (PE.tup [PE.loc 2, PE.loc 4]))) vSkip [some (.bytes b), some (.strm b μ.length), some (.mut (μ.length + 1)), some (.str (pth last)), some (.str w), x5, none] ((muP μ p (some acc)).set μ.length (some [.int (q : Nat)])) (endQ Q) fun m zz => X m := fun w q hw e => by
    refine ⟨by unfold big; exact ar230 hw, ?_⟩
    rw [muP_1]
    refine getMuI muP_bt ⟨Nat.le_of_ble_eq_true rfl, ?_⟩
    rw [muP_2]
    have := h q
    rw [e] at this
    exact this
  cases rest with
  | nil =>
    have hn : Rem b p (encR last [] 0 ++ []) 0 := by
      unfold Rem at hr ⊢
      rw [hr]; exact List.take_nil
    refine c_record (ns := []) (m := 0) H hat gl gn (by decide) hn (fun q => by cases q) fun w q e hq => ?_
    cases e
    exact stop plainW q (by decide +kernel) (by rw [ht]; show (acc ++ [], plainW) = _; rw [List.append_nil])
  | cons r rest =>
    obtain ⟨g1, g2⟩ := gr r (.head _)
    refine c_record H hat gl g1 g2 hr (fun e => ?_) fun w q e hq => ?_
    · refine ⟨_, _, rfl, ⟨_, rfl⟩, Nat.le_of_ble_eq_true rfl, ?_⟩
      rw [muP_1]
      have hz : acc.length + (rest.length + 1) ≤ 1000 := hz
      refine getMuI muP_bt ⟨by exact ar224 hz, ?_⟩
      rw [muP_2]
      have hle := recCut_none (m := r.2) e
      obtain ⟨a1, a2⟩ := Rem.app hr
      obtain ⟨a3, a4⟩ := a2 hle
      have hpl : p + (encR last r.1 r.2).length ≤ b.length := by
        rw [Nat.min_eq_left hle, List.length_take, List.length_drop] at a1
        exact ar231 hp a1
      refine ⟨rest.length, Nat.lt_succ_self _, .mk rest _ r.1 _ _ _ rfl rfl g1 hpl (by rw [List.length_append]; show _ + 1 + _ ≤ _; exact ar226 hz) (fun r m => gr r (.tail _ m)) a4 ?_ rfl⟩
      rw [ht, toldF_none e, List.append_assoc]; rfl
    · exact stop w q (recCut_words g1 e) (by rw [ht, toldF_some e, List.append_nil])
end
section
open Classical
noncomputable abbrev Path := List Name
noncomputable abbrev Rows := Nat → List Path
noncomputable def key (x : Path) : List Name := [] :: (if x = [] then [[]] else x)
noncomputable def mk : Nat → Nat
  | 0 => 130
  | 1 => 7
  | 2 => 64
  | 3 => 32
  | _ => 0
noncomputable def hd (x : Path) (k : Nat) : Hd := ⟨key x, k, mk k, pth x⟩
noncomputable def upd (R : Rows) (k : Nat) (q : List Path) : Rows := fun j => if j = k then q else R j
theorem key_lt {a b : Path} (ha : ∀ g ∈ a, GoodN g) (hb : ∀ g ∈ b, GoodN g) : ltL (key a) (key b) = ltL a b := by
  have e : ltL (key a) (key b) = ltL (if a = [] then [[]] else a) (if b = [] then [[]] else b) := if_pos rfl
  rw [e]
  cases a with
  | nil => cases b with
    | nil => rw [if_pos rfl]; exact if_pos rfl
    | cons y r =>
      rw [if_pos rfl, if_neg (List.cons_ne_nil _ _)]
      have hy := (hb y (.head _)).ne
      refine (if_neg (Ne.symm hy)).trans ?_
      cases y with
      | nil => exact absurd rfl hy
      | cons => rfl
  | cons x q => cases b with
    | nil =>
      rw [if_neg (List.cons_ne_nil _ _), if_pos rfl]
      have hx := (ha x (.head _)).ne
      refine (if_neg hx).trans ?_
      cases x with
      | nil => exact absurd rfl hx
      | cons => rfl
    | cons y r => rw [if_neg (List.cons_ne_nil _ _), if_neg (List.cons_ne_nil _ _)]
theorem key_inj {a b : Path} (ha : ∀ g ∈ a, GoodN g) (hb : ∀ g ∈ b, GoodN g) (h : key a = key b) : a = b := by
  have h := List.tail_eq_of_cons_eq h
  by_cases h1 : a = [] <;> by_cases h2 : b = []
  · rw [h1, h2]
  · rw [if_neg h2, if_pos h1] at h; exact absurd rfl (hb [] (h ▸ .head _)).ne
  · rw [if_neg h1, if_pos h2] at h; exact absurd rfl (ha [] (h ▸ .head _)).ne
  · rw [if_neg h1, if_neg h2] at h; exact h
structure HeapR (R : Rows) (L : List Hd) : Prop where
  of : ∀ h ∈ L, ∃ k x q, k < 4 ∧ R k = x :: q ∧ h = hd x k
  all : ∀ k x q, k < 4 → R k = x :: q → hd x k ∈ L
  nod : (L.map Hd.i).Nodup
theorem HeapR.perm {R : Rows} {L L' : List Hd} (h : HeapR R L) (p : L'.Perm L) : HeapR R L' :=
  ⟨fun x m => h.of x (p.mem_iff.mp m), fun k x q hk e => p.mem_iff.mpr (h.all k x q hk e), ((p.map Hd.i).nodup_iff).mpr h.nod⟩
theorem HeapR.out {R : Rows} {t : List Hd} {x : Path} {k : Nat} {q : List Path} (h : HeapR R (hd x k :: t)) (hr : R k = x :: q) : ∀ y ∈ t, y.i ≠ k := fun y m e =>
  (List.nodup_cons.mp h.nod).1 (List.mem_map.mpr ⟨y, m, e⟩)
theorem HeapR.pop {R : Rows} {t : List Hd} {x : Path} {k : Nat} (h : HeapR R (hd x k :: t)) (hr : R k = [x]) : HeapR (upd R k []) t := by
  refine ⟨fun y m => ?_, fun j y q hj e => ?_, (List.nodup_cons.mp h.nod).2⟩
  · obtain ⟨j, z, q, hj, e, rfl⟩ := h.of y (.tail _ m)
    have : j ≠ k := h.out hr _ m
    exact ⟨j, z, q, hj, (if_neg this).trans e, rfl⟩
  · by_cases c : j = k
    · rw [show upd R k [] j = [] from if_pos c] at e; cases e
    · rw [show upd R k [] j = R j from if_neg c] at e
      rcases List.mem_cons.mp (h.all j y q hj e) with e | m
      · exact absurd (congrArg Hd.i e) c
      · exact m
theorem HeapR.next {R : Rows} {t : List Hd} {x y : Path} {k : Nat} {q : List Path} (hk : k < 4) (h : HeapR R (hd x k :: t)) (hr : R k = x :: y :: q) : HeapR (upd R k (y :: q)) (hd y k :: t) := by
  refine ⟨fun z m => ?_, fun j z q' hj e => ?_, List.nodup_cons.mpr (List.nodup_cons.mp (show ((hd x k :: t).map Hd.i).Nodup from h.nod))⟩
  · rcases List.mem_cons.mp m with rfl | m
    · exact ⟨k, y, q, hk, if_pos rfl, rfl⟩
    obtain ⟨j, z, q', hj, e, rfl⟩ := h.of z (.tail _ m)
    have : j ≠ k := h.out hr _ m
    exact ⟨j, z, q', hj, (if_neg this).trans e, rfl⟩
  · by_cases c : j = k
    · subst c
      rw [show upd R j (y :: q) j = y :: q from if_pos rfl] at e; cases e
      exact .head _
    · rw [show upd R k (y :: q) j = R j from if_neg c] at e
      rcases List.mem_cons.mp (h.all j z q' hj e) with e | m
      · exact absurd (congrArg Hd.i e) c
      · exact .tail _ m
noncomputable def sum4 (f : Nat → Nat) : Nat := f 0 + f 1 + f 2 + f 3
theorem sum4_upd {f g : Nat → Nat} {k : Nat} (hk : k < 4) (h : ∀ j, j ≠ k → g j = f j) : sum4 g + f k = sum4 f + g k := by
  unfold sum4
  match k, hk with
  | 0, _ => rw [h 1 (by decide), h 2 (by decide), h 3 (by decide)]; simp +arith
  | 1, _ => rw [h 0 (by decide), h 2 (by decide), h 3 (by decide)]; simp +arith
  | 2, _ => rw [h 0 (by decide), h 1 (by decide), h 3 (by decide)]; simp +arith
  | 3, _ => rw [h 0 (by decide), h 1 (by decide), h 2 (by decide)]; exact Nat.add_right_comm _ _ _
theorem sum4_eq {f g : Nat → Nat} (h : ∀ k, k < 4 → f k = g k) : sum4 f = sum4 g := by
  unfold sum4; rw [h 0 (by decide), h 1 (by decide), h 2 (by decide), h 3 (by decide)]
noncomputable def rest (rows : Rows) (todo : List Path) (k : Nat) : List Path := todo.filter fun x => decide (x ∈ rows k)
noncomputable def Round (rows : Rows) (x : Path) (todo : List Path) (R : Rows) : Prop := ∀ k, k < 4 → R k = rest rows todo k ∨ (x ∈ rows k ∧ R k = x :: rest rows todo k)
noncomputable def pend (x : Path) (R : Rows) (v : Nat → Nat) : Nat := sum4 fun k => if (R k).head? = some x then v k else 0
noncomputable def total (rows : Rows) (x : Path) : Nat := sum4 fun k => if x ∈ rows k then mk k else 0
structure Todo (rows : Rows) (todo : List Path) : Prop where
  ord : todo.Pairwise fun a b => ltL a b = true
  good : ∀ x ∈ todo, GoodP x
  own : ∀ x ∈ todo, ∃ k, k < 4 ∧ x ∈ rows k
theorem rest_cons_in {rows : Rows} {x : Path} {todo : List Path} {k : Nat} (h : x ∈ rows k) : rest rows (x :: todo) k = x :: rest rows todo k := List.filter_cons_of_pos (decide_eq_true h)
theorem rest_cons_out {rows : Rows} {x : Path} {todo : List Path} {k : Nat} (h : x ∉ rows k) : rest rows (x :: todo) k = rest rows todo k := List.filter_cons_of_neg (by rw [decide_eq_false h]; exact Bool.false_ne_true)
theorem Todo.later {rows : Rows} {x : Path} {todo : List Path} (h : Todo rows (x :: todo)) : x ∉ todo := fun m => ltL_strict.irr x ((List.pairwise_cons.mp h.ord).1 x m)
theorem rest_head {rows : Rows} {x : Path} {todo : List Path} (h : x ∉ todo) (k : Nat) : (rest rows todo k).head? ≠ some x := fun e =>
  h (List.mem_filter.mp (List.mem_of_mem_head? e)).1
theorem Round.start {rows : Rows} {x : Path} {todo : List Path} {R : Rows} (h : ∀ k, k < 4 → R k = rest rows (x :: todo) k) : Round rows x todo R := fun k hk => by
  by_cases c : x ∈ rows k
  · exact .inr ⟨c, (h k hk).trans (rest_cons_in c)⟩
  · exact .inl ((h k hk).trans (rest_cons_out c))
theorem Round.total {rows : Rows} {x : Path} {todo : List Path} {R : Rows} (hx : x ∉ todo) (h : ∀ k, k < 4 → R k = rest rows (x :: todo) k) : pend x R mk = total rows x := sum4_eq fun k hk => by
  show (if (R k).head? = some x then mk k else 0) = if x ∈ rows k then mk k else 0
  rw [h k hk]
  by_cases c : x ∈ rows k
  · rw [rest_cons_in c, if_pos c]; exact if_pos rfl
  · rw [rest_cons_out c, if_neg (rest_head hx k), if_neg c]
theorem Round.top {rows : Rows} {x : Path} {todo : List Path} {R : Rows} (r : Round rows x todo R) (td : Todo rows (x :: todo)) {L : List Hd} (hr : HeapR R L) (hp : HpH 0 L) {k : Nat} (hk : k < 4) (hx : (R k).head? = some x) : ∃ h t, L = h :: t ∧ h.p = pth x := by
  obtain ⟨q, hq⟩ : ∃ q, R k = x :: q := by
    cases e : R k with
    | nil => rw [e] at hx; exact nosome hx
    | cons y q => rw [e] at hx; cases hx; exact ⟨q, rfl⟩
  have hm := hr.all k x q hk hq
  cases L with
  | nil => cases hm
  | cons h t =>
    refine ⟨h, t, rfl, ?_⟩
    obtain ⟨k0, x0, q0, hk0, e0, rfl⟩ := hr.of h (.head _)
    obtain ⟨j, hj⟩ := List.getElem?_of_mem hm
    have hle : leH (hd x0 k0) (hd x k) := Hp.top (le := leH) leH_tr leH_rf hp rfl j _ hj
    have m0 : x0 = x ∨ x0 ∈ todo := by
      rcases r k0 hk0 with e | ⟨_, e⟩
      · rw [e] at e0; exact .inr (List.mem_filter.mp (e0 ▸ List.Mem.head _ : x0 ∈ rest rows todo k0)).1
      · rw [e] at e0; cases e0; exact .inl rfl
    rcases m0 with rfl | m0
    · rfl
    · have lt := (List.pairwise_cons.mp td.ord).1 x0 m0
      have gx := (td.good x (.head _)).all
      have g0 := (td.good x0 (.tail _ m0)).all
      have : ltH (hd x k) (hd x0 k0) = true := by
        unfold ltH
        rw [if_neg]
        · exact (key_lt gx g0).trans lt
        · intro e; rw [key_inj gx g0 e] at lt; exact absurd lt (ltL_strict.irr _)
      rw [show ltH (hd x k) (hd x0 k0) = false from hle] at this; exact ff_tt this
theorem Round.step {rows : Rows} {x : Path} {todo : List Path} {R : Rows} {k : Nat} {q : List Path} (r : Round rows x todo R) (hx : x ∉ todo) (hk : k < 4) (h : R k = x :: q) : Round rows x todo (upd R k q) ∧ (∀ v, pend x (upd R k q) v + v k = pend x R v) := by
  have hq : q = rest rows todo k := by
    rcases r k hk with e | ⟨_, e⟩
    · have := rest_head (rows := rows) hx k
      rw [← e, h] at this; exact absurd rfl this
    · rw [h] at e; exact List.tail_eq_of_cons_eq e
  refine ⟨fun j hj => ?_, fun v => ?_⟩
  · by_cases c : j = k
    · subst c; exact .inl ((if_pos rfl).trans hq)
    · rw [show upd R k q j = R j from if_neg c]; exact r j hj
  · have := sum4_upd (f := fun k => if (R k).head? = some x then v k else 0) (g := fun j => if (upd R k q j).head? = some x then v j else 0) hk fun j c => by
      show (if (upd R k q j).head? = some x then v j else 0) = _
      rw [show upd R k q j = R j from if_neg c]
    rw [show (if (upd R k q k).head? = some x then v k else 0) = 0 from by rw [show upd R k q k = q from if_pos rfl, hq, if_neg (rest_head hx k)], show (if (R k).head? = some x then v k else 0) = v k from by rw [h]; exact if_pos rfl] at this
    exact this
theorem Round.done {rows : Rows} {x : Path} {todo : List Path} {R : Rows} (r : Round rows x todo R) (hn : ∀ k, k < 4 → (R k).head? ≠ some x) : (∀ k, k < 4 → R k = rest rows todo k) ∧ ∀ v, pend x R v = 0 := by
  refine ⟨fun k hk => (r k hk).resolve_right fun e => hn k hk (by rw [e.2]; rfl), fun v => ?_⟩
  exact sum4_eq (g := fun zz => 0) fun k hk => if_neg (hn k hk)
end
section
open Classical
variable {G : GG} {k n : Nat} {μ : Mu} {ρ : Rho} {Q : D → Mu → Prop} {X : List Nat → Mu → Prop}
noncomputable abbrev Bs := Nat → List UInt8 × Nat
noncomputable abbrev strmsD (bs : Bs) : List D := (List.range 4).map fun k => D.strm (bs k).1 (bs k).2
noncomputable abbrev marked (k : Nat) (q : List Path) : Due := q.map fun y => (y, mk k)
structure ApartB (bs : Bs) (js h : Nat) : Prop where
  inj : ∀ j k, j < 4 → k < 4 → (bs j).2 = (bs k).2 → j = k
  nj : ∀ k, k < 4 → (bs k).2 ≠ js
  nh : ∀ k, k < 4 → (bs k).2 ≠ h
  jh : h ≠ js
noncomputable def Told (μ : Mu) (bs : Bs) (k : Nat) (x : Path) (q : List Path) : Prop := ∃ p, At μ (bs k).1 (bs k).2 p ∧ (bs k).1.drop p = bts (encs x (marked k q))
structure Ms (bs : Bs) (js : Nat) (μ : Mu) (R : Rows) : Prop where
  strms : μ[js]? = some (some (strmsD bs))
  st : ∀ k x q, k < 4 → R k = x :: q → Told μ bs k x q
theorem At.other {b : List UInt8} {i j p : Nat} {o : Option (List D)} (h : At μ b i p) (hj : j ≠ i) : At (μ.set j o) b i p := ⟨(List.getElem?_set_ne hj).trans h.mu, h.le, h.big⟩
theorem Ms.heap {bs : Bs} {js h : Nat} {R : Rows} {o : Option (List D)} (m : Ms bs js μ R) (a : ApartB bs js h) : Ms bs js (μ.set h o) R :=
  ⟨(List.getElem?_set_ne a.jh).trans m.strms, fun k x q hk e => (m.st k x q hk e).imp fun p t => ⟨t.1.other (Ne.symm (a.nh k hk)), t.2⟩⟩
theorem Ms.step {bs : Bs} {js h k : Nat} {R : Rows} {o : Option (List D)} {q : List Path} (m : Ms bs js μ R) (a : ApartB bs js h) (hk : k < 4) (hq : ∀ y q', q = y :: q' → Told (μ.set (bs k).2 o) bs k y q') : Ms bs js (μ.set (bs k).2 o) (upd R k q) := by
  refine ⟨(List.getElem?_set_ne (a.nj k hk)).trans m.strms, fun j x q' hj e => ?_⟩
  by_cases c : j = k
  · subst c; exact hq x q' ((if_pos rfl : upd R j q j = q).symm.trans e)
  · rw [show upd R k q j = R j from if_neg c] at e
    exact (m.st j x q' hj e).imp fun p t => ⟨t.1.other fun e => c (a.inj k j hk hj e).symm, t.2⟩
theorem mk_lt : ∀ k, mk k < 256
  | 0 => by decide
  | 1 => by decide
  | 2 => by decide
  | 3 => by decide
  | _ + 4 => by show 0 < 256; decide
theorem c_next (H : Oks G) {bs : Bs} {k' : Nat} {x : Path} {q : List Path} (t : Told μ bs k' x q) (gx : GoodP x) (gq : ∀ y ∈ q, GoodP y)
    (h1 : ∀ y q' o, q = y :: q' → Told (μ.set (bs k').2 o) bs k' y q' → Q (hdD (hd y k')) (μ.set (bs k').2 o)) (h2 : ∀ o, q = [] → Q .none (μ.set (bs k').2 o)) :
    callC G (k + 10) .head [.strm (bs k').1 (bs k').2, .int (k' : Nat), .str (pth x)] μ Q X := by
  obtain ⟨p, t1, t2⟩ := t
  refine c_head H t1 gx (rows := marked k' q) (fun r m => ?_) t2 (fun r q' e e2 e3 => ?_) fun z e hz => ?_
  · obtain ⟨y, m2, rfl⟩ := List.mem_map.mp m
    exact ⟨gq y m2, mk_lt k'⟩
  · cases q with
    | nil => cases e
    | cons y q => cases e; exact h1 y q _ rfl ⟨_, e3, e2⟩
  · cases q with
    | nil => exact h2 _ rfl
    | cons y q => cases e
noncomputable def hopt (rows : Rows) (k : Nat) : D := match rows k with
  | [] => .none
  | x :: _ => hdD (hd x k)
noncomputable def hsel (rows : Rows) (k : Nat) : Option D := match rows k with
  | [] => none
  | x :: _ => some (hdD (hd x k))
theorem strm_at {bs : Bs} {j : Nat} (hj : j < 4) : (strmsD bs)[j]? = some (D.strm (bs j).1 (bs j).2) := by
  rw [List.getElem?_map, List.getElem?_range hj]; rfl
theorem first_heads (H : Oks G) {bs : Bs} {js h : Nat} {rows : Rows} (a : ApartB bs js h) (gr : ∀ k, ∀ y ∈ rows k, GoodP y) (hc : capRho ρ [none, none, some 0] = [none, none, some (.mut js)]) : ∀ (n j : Nat) (μ : Mu) {K : List (Option D) → Mu → Prop}, j + n = 4 → μ[js]? = some (some (strmsD bs)) →
    (∀ k x q, k < j → rows k = x :: q → Told μ bs k x q) → (∀ k, k < 4 → j ≤ k → Told μ bs k [] (rows k)) → (∀ μ', μ'.length = μ.length → Ms bs js μ' rows → K ((List.range' j n).map fun k => some (hopt rows k)) μ') →
    seqC (fun d μ₂ K => vcIfs G (k + 10) [] (put (capRho ρ [none, none, some 0]) 1 (some d)) μ₂ (fun ok μ₃ => (ok = true → vcE G (k + 10) (PE.call Fn.head [(PE.loc 2).idx (PE.loc 1), PE.loc 1, PE.str [47]]) (put (capRho ρ [none, none, some 0]) 1 (some d)) μ₃ (fun y => K (some y)) (fun zz zz => False)) ∧ (ok = false → K none μ₃)) (fun zz zz => False))
      ((List.range' j n).map fun i => .int (i : Nat)) μ K := by
  rw [hc]
  intro n
  induction n with
  | zero =>
    intro j μ K e hs hdn _ hK
    exact hK μ rfl ⟨hs, fun k x q hk => hdn k x q (by exact ar232 e hk)⟩
  | succ n ih =>
    intro j μ K e hs hdn ht hK
    have hj : j < 4 := by exact ar233 e
    refine ⟨fun zz => ?_, fun q => nomatch q⟩
    refine getMuI hs (atDI (Int.natCast_nonneg _) (strm_at hj) ?_)
    have oth : ∀ k x q o, k < 4 → k ≠ j → Told μ bs k x q → Told (μ.set (bs j).2 o) bs k x q := fun k x q o hk c t => t.imp fun p t => ⟨t.1.other fun e => c (a.inj j k hj hk e).symm, t.2⟩
    have nxt : ∀ o, (∀ x q, rows j = x :: q → Told (μ.set (bs j).2 o) bs j x q) → seqC (fun d μ₂ K => vcIfs G (k + 10) [] (put [none, none, some (.mut js)] 1 (some d)) μ₂ (fun ok μ₃ => (ok = true → vcE G (k + 10) (PE.call Fn.head [(PE.loc 2).idx (PE.loc 1), PE.loc 1, PE.str [47]]) (put [none, none, some (.mut js)] 1 (some d)) μ₃ (fun y => K (some y)) (fun zz zz => False)) ∧ (ok = false → K none μ₃)) (fun zz zz => False))
      ((List.range' (j + 1) n).map fun i => .int (i : Nat)) (μ.set (bs j).2 o) fun as => K (some (hopt rows j) :: as) := fun o hq =>
      ih (j + 1) _ (by exact ar234 e) ((List.getElem?_set_ne (a.nj j hj)).trans hs) (fun k x q hk e2 => by
        by_cases c : k = j
        · subst c; exact hq x q e2
        · exact oth k x q o (by exact Nat.le_trans ‹_› ‹_›) c (hdn k x q (by exact ar235 hk c) e2)) (fun k hk hk2 => oth k _ _ o hk (by exact Nat.ne_of_gt ‹_›) (ht k hk (by exact Nat.le_of_lt ‹_›))) fun μ' hl m => hK μ' (hl.trans (List.length_set ..)) m
    refine c_next H (ht j hj (Nat.le_refl _)) ⟨Nat.zero_le _, fun g m => nomatch m⟩ (gr j) (fun y q' o e t => ?_) fun o e => ?_
    · have := nxt o fun x q e2 => by rw [e] at e2; cases e2; exact t
      rw [show hopt rows j = hdD (hd y j) from by unfold hopt; rw [e]] at this
      exact this
    · have := nxt o fun x q e2 => by rw [e] at e2; cases e2
      rw [show hopt rows j = .none from by unfold hopt; rw [e]] at this
      exact this
theorem heads_ok {rows : Rows} {μ : Mu} : ∀ (ks : List Nat) {K : List (Option D) → Mu → Prop}, K (ks.map (hsel rows)) μ →
    seqC (fun d μ₂ K => vcIfs G k [PE.cmp Cop.isnot (PE.loc 1) PE.none] (put (capRho ρ [none, none]) 1 (some d)) μ₂ (fun ok μ₃ => (ok = true → vcE G k (PE.loc 1) (put (capRho ρ [none, none]) 1 (some d)) μ₃ (fun y => K (some y)) (fun zz zz => False)) ∧ (ok = false → K none μ₃)) (fun zz zz => False)) (optsD (ks.map fun j => some (hopt rows j))) μ K
  | [], _, h => h
  | j :: ks, K, h => by
    have h : K (hsel rows j :: ks.map (hsel rows)) μ := h
    show seqC _ (hopt rows j :: _) μ K
    cases e : rows j with
    | nil =>
      rw [show hsel rows j = none from by unfold hsel; rw [e]] at h
      rw [show hopt rows j = .none from by unfold hopt; rw [e]]
      exact ⟨fun q => (ff_tt q), fun zz => ⟨fun q => (ff_tt q), fun zz => heads_ok ks h⟩⟩
    | cons x q =>
      rw [show hsel rows j = some (hdD (hd x j)) from by unfold hsel; rw [e]] at h
      rw [show hopt rows j = hdD (hd x j) from by unfold hopt; rw [e]]
      exact ⟨fun zz => ⟨fun zz => heads_ok ks h, fun q => (nomatch q)⟩, fun q => (nomatch q)⟩
noncomputable def heads0 (rows : Rows) : List Nat → List Hd
  | [] => []
  | j :: ks => match rows j with
    | [] => heads0 rows ks
    | x :: _ => hd x j :: heads0 rows ks
theorem heads0_opts {rows : Rows} : ∀ ks : List Nat, optsD (ks.map (hsel rows)) = (heads0 rows ks).map hdD
  | [] => rfl
  | j :: ks => by
    show optsD (hsel rows j :: _) = _
    unfold heads0
    cases e : rows j with
    | nil => rw [show hsel rows j = none from by unfold hsel; rw [e]]; exact heads0_opts ks
    | cons x q => rw [show hsel rows j = some (hdD (hd x j)) from by unfold hsel; rw [e]]; exact congrArg (hdD (hd x j) :: ·) (heads0_opts ks)
theorem heads0_in {rows : Rows} : ∀ ks : List Nat, (∀ h ∈ heads0 rows ks, ∃ k x q, k ∈ ks ∧ rows k = x :: q ∧ h = hd x k) ∧ (∀ k x q, k ∈ ks → rows k = x :: q → hd x k ∈ heads0 rows ks) ∧ (ks.Nodup → ((heads0 rows ks).map Hd.i).Nodup) ∧ (heads0 rows ks).length ≤ ks.length
  | [] => ⟨fun zz m => (nomatch m), fun zz zz zz m => (nomatch m), fun zz => List.nodup_nil, Nat.le_refl _⟩
  | j :: ks => by
    obtain ⟨i1, i2, i3, i4⟩ := heads0_in (rows := rows) ks
    unfold heads0
    cases e : rows j with
    | nil =>
      refine ⟨fun h m => ?_, fun k x q m e2 => ?_, fun nd => i3 (List.nodup_cons.mp nd).2, Nat.le_succ_of_le i4⟩
      · obtain ⟨k, x, q, m, r⟩ := i1 h m; exact ⟨k, x, q, .tail _ m, r⟩
      · rcases List.mem_cons.mp m with rfl | m
        · rw [e] at e2; cases e2
        · exact i2 k x q m e2
    | cons x q =>
      refine ⟨fun h m => ?_, fun k x' q' m e2 => ?_, fun nd => List.nodup_cons.mpr ⟨fun m => ?_, i3 (List.nodup_cons.mp nd).2⟩, Nat.succ_le_succ i4⟩
      · rcases List.mem_cons.mp m with rfl | m
        · exact ⟨j, x, q, .head _, e, rfl⟩
        · obtain ⟨k, x, q, m, r⟩ := i1 h m; exact ⟨k, x, q, .tail _ m, r⟩
      · rcases List.mem_cons.mp m with rfl | m
        · rw [e] at e2; cases e2; exact .head _
        · exact .tail _ (i2 k x' q' m e2)
      · obtain ⟨y, m, ey⟩ := List.mem_map.mp m
        obtain ⟨k, x', q', m3, _, rfl⟩ := i1 y m
        exact (List.nodup_cons.mp nd).1 ((show k = j from ey) ▸ m3)
end
section
open Classical
variable {G : GG} {k n : Nat} {μ : Mu} {ρ : Rho} {Q : D → Mu → Prop} {X : List Nat → Mu → Prop}
noncomputable abbrev rhoM (js h : Nat) (x1 x2 x4 x5 x6 x7 x8 : Option D) (r : Rho) : Rho := some (.mut js) :: x1 :: x2 :: some (.mut h) :: x4 :: x5 :: x6 :: x7 :: x8 :: r
structure Mid (rows : Rows) (bs : Bs) (js h : Nat) (R : Rows) (L : List Hd) (μ : Mu) : Prop where
  ms : Ms bs js μ R
  hm : μ[h]? = some (some (L.map hdD))
  hp : HpH 0 L
  hr : HeapR R L
  hl : L.length ≤ 4
inductive InvI (rows : Rows) (x : Path) (todo : List Path) (bs : Bs) (js h : Nat) (x1 x4 x5 : Option D) (r : Rho) (n : Nat) (ρ : Rho) (μ : Mu) : Prop
  | mk (R : Rows) (L : List Hd) (a : Nat) (x2 x8 : Option D) (hρ : ρ = rhoM js h x1 x2 x4 x5 (some (.str (pth x))) (some (.int (a : Nat))) x8 r) (rd : Round rows x todo R) (m : Mid rows bs js h R L μ) (ha : a + pend x R mk = total rows x) (hn : n = pend x R fun zz => 1)
theorem isEq (a b : List Nat) {p q : Prop} (h1 : a = b → p) (h2 : a ≠ b → q) : (decide (a = b) = true → p) ∧ (decide (a = b) = false → q) := ⟨fun h => h1 (of_decide_eq_true h), fun h => h2 (of_decide_eq_false h)⟩
theorem Round.good {rows R : Rows} {x : Path} {todo : List Path} (r : Round rows x todo R) (td : Todo rows (x :: todo)) {k : Nat} (hk : k < 4) : ∀ y ∈ R k, GoodP y := fun y m => by
  rcases r k hk with e | ⟨_, e⟩
  · rw [e] at m; exact td.good y (.tail _ (List.mem_filter.mp m).1)
  · rw [e] at m
    rcases List.mem_cons.mp m with rfl | m
    · exact td.good y (.head _)
    · exact td.good y (.tail _ (List.mem_filter.mp m).1)
theorem inner_loop (H : Oks G) {rows R : Rows} {x : Path} {todo : List Path} {bs : Bs} {js h : Nat} {x1 x2 x4 x5 x8 : Option D} {r : Rho} {L : List Hd} {Q : FQ} {X : MX} (ap : ApartB bs js h) (td : Todo rows (x :: todo)) (rd : Round rows x todo R) (m : Mid rows bs js h R L μ) (ha : pend x R mk = total rows x)
    (hQ : ∀ (R' : Rows) (L' : List Hd) (x2 x8 : Option D) (μ' : Mu), (∀ k, k < 4 → R' k = rest rows todo k) → Mid rows bs js h R' L' μ' → Q .next (rhoM js h x1 x2 x4 x5 (some (.str (pth x))) (some (.int (total rows x : Nat))) x8 r) μ') :
    vWhile G (k + 10) ((PE.loc 3).and (PE.cmp Cop.eq (((PE.loc 3).idx (PE.int 0)).idx (PE.int 3)) (PE.loc 6))) (vSeq (vSet G (k + 10) 8 (((PE.loc 3).idx (PE.int 0)).idx (PE.int 1))) (vSeq (vAug G (k + 10) 7 Bop.add (((PE.loc 3).idx (PE.int 0)).idx (PE.int 2))) (vSeq (vSet G (k + 10) 2 (PE.call Fn.head [(PE.loc 0).idx (PE.loc 8), PE.loc 8, PE.loc 6]))
      (vSeq (vIf G (k + 10) (PE.cmp Cop.is (PE.loc 2) PE.none) (vSeq (vExpr G (k + 10) (PE.call Fn.pop [PE.loc 3])) vSkip) (vSeq (vExpr G (k + 10) (PE.call Fn.replace [PE.loc 3, PE.loc 2])) vSkip)) vSkip)))) (rhoM js h x1 x2 x4 x5 (some (.str (pth x))) (some (.int (0 : Nat))) x8 r) μ Q X := by
  have hx := td.later
  have gx := td.good x (.head _)
  refine ⟨InvI rows x todo bs js h x1 x4 x5 r, _, ⟨R, L, 0, x2, x8, rfl, rd, m, (Nat.zero_add _).trans ha, rfl⟩, ?_⟩
  rintro _ _ μ ⟨R, L, a, x2, x8, rfl, rd, m, ha, rfl⟩
  have out : (∀ h t, L = h :: t → h.p ≠ pth x) → Q .next (rhoM js h x1 x2 x4 x5 (some (.str (pth x))) (some (.int (a : Nat))) x8 r) μ := fun hne => by
    obtain ⟨d1, d2⟩ := rd.done fun k hk e => by
      obtain ⟨h, t, e1, e2⟩ := rd.top td m.hr m.hp hk e
      exact hne h t e1 e2
    rw [d2, Nat.add_zero] at ha
    rw [ha]
    exact hQ R L x2 x8 μ d1 m
  refine getMuI m.hm ?_
  cases L with
  | nil => exact ⟨fun q => (ff_tt q), fun zz => ⟨fun q => (nomatch q), fun zz => out fun zz zz e => nomatch e⟩⟩
  | cons h0 t =>
    refine ⟨fun zz => ?_, fun q => (nomatch q)⟩
    refine getMuI m.hm (atDI (Int.le_refl _) rfl ?_)
    refine ⟨by decide, ?_⟩
    refine isEq h0.p (pth x) (fun e => ?_) fun ne => out fun h t e => by cases e; exact ne
    obtain ⟨k0, x0, q0, hk0, e0, rfl⟩ := m.hr.of h0 (.head _)
    have gq := rd.good td hk0
    rw [e0] at gq
    obtain rfl : x0 = x := pth_inj (gq x0 (.head _)).all gx.all e
    refine getMuI m.hm (atDI (Int.le_refl _) rfl ?_)
    refine ⟨by decide, ?_⟩
    refine getMuI m.hm (atDI (Int.le_refl _) rfl ?_)
    refine ⟨by decide, ?_⟩
    refine getMuI m.ms.strms (atDI (Int.natCast_nonneg _) (strm_at hk0) ?_)
    obtain ⟨s1, s2⟩ := rd.step hx hk0 e0
    have lt : pend x0 (upd R k0 q0) (fun zz => 1) < pend x0 R fun zz => 1 := by
      have : pend x0 (upd R k0 q0) (fun zz => 1) + 1 = pend x0 R fun zz => 1 := s2 fun zz => 1
      rw [← this]; exact Nat.lt_succ_self _
    have hacc : a + mk k0 + pend x0 (upd R k0 q0) mk = total rows x0 := by rw [← ha, ← s2 mk, Nat.add_assoc, Nat.add_comm (mk k0)]
    have hl : t.length + 1 ≤ 4 := m.hl
    have hlt : t.length < 1000 := Nat.lt_of_lt_of_le hl (by decide)
    have hmo : ∀ o, (μ.set (bs k0).2 o)[h]? = some (some ((hd x0 k0 :: t).map hdD)) := fun o => (List.getElem?_set_ne (ap.nh k0 hk0)).trans m.hm
    refine c_next H (m.ms.st k0 x0 q0 hk0 e0) gx (fun y m => gq y (.tail _ m)) (fun y q' o eq tl => ?_) fun o eq => ?_
    · subst eq
      refine ⟨fun q => (ff_tt q), fun zz => ?_⟩
      have hr := HeapR.next hk0 m.hr e0
      refine c_replace H (hmo o) m.hp hlt hr.nod fun l' p1 p2 => ?_
      have ms := m.ms.step ap hk0 (q := y :: q') (o := o) fun z q2 e => by cases e; exact tl
      refine ⟨_, lt, upd R k0 (y :: q'), l', a + mk k0, _, _, rfl, s1, ⟨ms.heap ap, List.getElem?_set_self (List.getElem?_eq_some_iff.mp (hmo o)).1, p2, hr.perm p1, by rw [p1.length_eq]; exact hl⟩, hacc, rfl⟩
    · subst eq
      refine ⟨fun zz => ?_, fun q => (nomatch q)⟩
      refine c_pop H (hmo o) m.hp hlt m.hr.nod fun l' p1 p2 => ?_
      have ms := m.ms.step ap hk0 (q := []) (o := o) fun z q2 e => nomatch e
      refine ⟨_, lt, upd R k0 [], l', a + mk k0, _, _, rfl, s1, ⟨ms.heap ap, List.getElem?_set_self (List.getElem?_eq_some_iff.mp (hmo o)).1, p2, (HeapR.pop m.hr e0).perm p1, by rw [p1.length_eq]; exact Nat.le_of_succ_le hl⟩, hacc, rfl⟩
end
section
open Classical
variable {G : GG} {k n : Nat} {μ : Mu} {ρ : Rho} {Q : D → Mu → Prop} {X : List Nat → Mu → Prop}
theorem GoodP.take {x : Path} (g : GoodP x) (j : Nat) : GoodP (x.take j) := ⟨Nat.le_trans (List.length_take_le' _ _) g.len, fun y m => g.all y (List.mem_of_mem_take m)⟩
theorem notin_st {x : Path} {s j : Nat} (g : GoodP x) (hs : s ≤ j) (hj : j ≤ x.length) {p q : Prop} (h1 : s < j → p) (h2 : j = s → q) : (∃ sh, Has sh (.str (pth (x.take j))) ∧ (∀ d ∈ [D.str (pth (x.take s)), D.str [47]], Has sh d) ∧ sh.dp ≤ 100) ∧
    (decide (D.str (pth (x.take j)) ∉ [D.str (pth (x.take s)), D.str [47]]) = true → p) ∧ (decide (D.str (pth (x.take j)) ∉ [D.str (pth (x.take s)), D.str [47]]) = false → q) := by
  have lj : (x.take j).length = j := by rw [List.length_take, Nat.min_eq_left hj]
  have ls : (x.take s).length = s := by rw [List.length_take, Nat.min_eq_left (Nat.le_trans hs hj)]
  refine ⟨⟨.str, trivial, fun d m => ?_, Nat.zero_le _⟩, fun h => h1 ?_, fun h => h2 ?_⟩
  · rcases List.mem_cons.mp m with rfl | m
    · trivial
    rcases List.mem_cons.mp m with rfl | m
    · trivial
    · cases m
  · rcases Nat.lt_or_eq_of_le hs with c | c
    · exact c
    · exact absurd (c ▸ List.Mem.head _) (of_decide_eq_true h)
  · have h := Classical.not_not.mp (of_decide_eq_false h)
    rcases List.mem_cons.mp h with e | m
    · have := pth_inj (g.take j).all (g.take s).all (D.str.inj e)
      rw [← lj, this, ls]
    rcases List.mem_cons.mp m with e | m
    · have := pth_inj (g.take j).all (b := []) (fun zz m => nomatch m) (D.str.inj e)
      rw [this] at lj
      have lj : 0 = j := lj
      exact Nat.le_antisymm (lj ▸ Nat.zero_le s) hs
    · cases m
theorem take_pred {x : Path} {j : Nat} (h : j + 1 ≤ x.length) : ∃ g, g ∈ x ∧ x.take (j + 1) = x.take j ++ [g] ∧ x.drop j = g :: x.drop (j + 1) :=
  ⟨x[j], List.getElem_mem h, List.take_succ_eq_append_getElem h, List.drop_eq_getElem_cons h⟩
inductive InvU (ρ₀ : Rho) (last : Path) (s : Nat) (μ₀ : Mu) (n : Nat) (ρ : Rho) (μ : Mu) : Prop
  | mk (j : Nat) (hρ : ρ = put (put ρ₀ 5 (some (.str (pth (last.take j))))) 10 (some (.int (last.length - j : Nat)))) (hs : s ≤ j) (hj : j ≤ last.length) (hn : n = j) (hm : μ = μ₀)
theorem up_loop (H : Oks G) {last : Path} {s : Nat} {r0 r1 r2 r3 r4 r5 r6 r7 r8 r10 r11 r12 r13 : Option D} {Q : FQ} {X : MX} (g : GoodP last) (hs : s ≤ last.length)
    (hQ : Q .next [r0, r1, r2, r3, r4, some (.str (pth (last.take s))), r6, r7, r8, some (.str (pth (last.take s))), some (.int (last.length - s : Nat)), r11, r12, r13] μ) :
    vWhile G (k + 4) (PE.cmp Cop.notin (PE.loc 5) (PE.tup [PE.loc 9, PE.str [47]])) (vSeq (vSet G (k + 4) 5 (PE.call Fn.dirname [PE.loc 5])) (vSeq (vAug G (k + 4) 10 Bop.add (PE.int 1)) vSkip))
      [r0, r1, r2, r3, r4, some (.str (pth last)), r6, r7, r8, some (.str (pth (last.take s))), some (.int (0 : Nat)), r11, r12, r13] μ Q X := by
  refine ⟨InvU [r0, r1, r2, r3, r4, r5, r6, r7, r8, some (.str (pth (last.take s))), r10, r11, r12, r13] last s μ, _, ⟨last.length, by rw [List.take_length, Nat.sub_self]; rfl, hs, Nat.le_refl _, rfl, rfl⟩, ?_⟩
  rintro j _ _ ⟨_, rfl, hs, hj, rfl, rfl⟩
  refine ⟨Nat.le_of_ble_eq_true rfl, notin_st g hs hj (fun lt => ?_) fun e => by subst e; exact hQ⟩
  obtain ⟨j, rfl⟩ : ∃ i, j = i + 1 := ⟨j - 1, (Nat.sub_add_cancel (Nat.lt_of_le_of_lt (Nat.zero_le _) lt)).symm⟩
  obtain ⟨y, my, e1, e2⟩ := take_pred hj
  have hpl := pth_len (g.take (j + 1))
  refine c_dirname H (Nat.le_trans hpl (by decide)) ?_
  rw [e1, dir_pth (g.take j).all (g.all y my)]
  refine ⟨j, Nat.lt_succ_self _, j, ?_, Nat.le_of_lt_succ lt, Nat.le_of_succ_le hj, rfl, rfl⟩
  have : (last.length : Int) - ((j + 1 : Nat) : Int) + 1 = (last.length - j : Nat) := by exact ar236 hj
  rw [← this, sub_nat hj]; rfl
inductive InvW (ρ₀ : Rho) (x : Path) (s : Nat) (μ₀ : Mu) (n : Nat) (ρ : Rho) (μ : Mu) : Prop
  | mk (j : Nat) (hρ : ρ = put (put ρ₀ 11 (some (.str (pth (x.take j))))) 12 (some (strsD (x.drop j)))) (hs : s ≤ j) (hj : j ≤ x.length) (hn : n = j) (hm : μ = μ₀)
theorem down_loop (H : Oks G) {x : Path} {s : Nat} {r0 r1 r2 r3 r4 r5 r6 r7 r8 r10 r13 : Option D} {Q : FQ} {X : MX} (g : GoodP x) (hs : s ≤ x.length)
    (hQ : Q .next [r0, r1, r2, r3, r4, r5, r6, r7, r8, some (.str (pth (x.take s))), r10, some (.str (pth (x.take s))), some (strsD (x.drop s)), r13] μ) :
    vWhile G (k + 4) (PE.cmp Cop.notin (PE.loc 11) (PE.tup [PE.loc 9, PE.str [47]])) (vSeq (vSet G (k + 4) 12 (PE.bin Bop.add (PE.list false [PE.call Fn.basename [PE.loc 11]]) (PE.loc 12))) (vSeq (vSet G (k + 4) 11 (PE.call Fn.dirname [PE.loc 11])) vSkip))
      [r0, r1, r2, r3, r4, r5, r6, r7, r8, some (.str (pth (x.take s))), r10, some (.str (pth x)), some (.list []), r13] μ Q X := by
  refine ⟨InvW [r0, r1, r2, r3, r4, r5, r6, r7, r8, some (.str (pth (x.take s))), r10, none, none, r13] x s μ, _, ⟨x.length, by rw [List.take_length, List.drop_length]; rfl, hs, Nat.le_refl _, rfl, rfl⟩, ?_⟩
  rintro j _ _ ⟨_, rfl, hs, hj, rfl, rfl⟩
  refine ⟨Nat.le_of_ble_eq_true rfl, notin_st g hs hj (fun lt => ?_) fun e => by subst e; exact hQ⟩
  obtain ⟨j, rfl⟩ : ∃ i, j = i + 1 := ⟨j - 1, (Nat.sub_add_cancel (Nat.lt_of_le_of_lt (Nat.zero_le _) lt)).symm⟩
  obtain ⟨y, my, e1, e2⟩ := take_pred hj
  have hpl := pth_len (g.take (j + 1))
  have hdl : 1 + (x.drop (j + 1)).length ≤ 16777216 := by rw [List.length_drop]; have := g.len; exact ar237 this
  refine c_basename H ?_
  rw [e1, base_pth (g.all y my)]
  refine ⟨Nat.le_of_ble_eq_true rfl, by rw [List.length_map]; exact hdl, ?_⟩
  refine c_dirname H (by rw [← e1]; exact Nat.le_trans hpl (by decide)) ?_
  rw [dir_pth (g.take j).all (g.all y my)]
  refine ⟨j, Nat.lt_succ_self _, j, ?_, Nat.le_of_lt_succ lt, Nat.le_of_succ_le hj, rfl, rfl⟩
  rw [e2]; rfl
end
section
open Classical
variable {G : GG} {k n : Nat} {μ : Mu} {ρ : Rho} {Q : D → Mu → Prop} {X : List Nat → Mu → Prop}
noncomputable abbrev todoD (rows : Rows) (todo : List Path) : Due := todo.map fun x => (x, total rows x)
inductive InvO (rows : Rows) (bs : Bs) (js h : Nat) (E : List Nat) (n : Nat) (ρ : Rho) (μ : Mu) : Prop
  | mk (todo : List Path) (R : Rows) (L : List Hd) (acc : List Nat) (last : Path) (x1 x2 x6 x7 x8 x9 x10 x11 x12 x13 : Option D) (hρ : ρ = rhoM js h x1 x2 (some (natsD acc)) (some (.str (pth last))) x6 x7 x8 [x9, x10, x11, x12, x13])
    (m : Mid rows bs js h R L μ) (hR : ∀ k, k < 4 → R k = rest rows todo k) (td : Todo rows todo) (gl : GoodP last) (he : E = acc ++ encs last (todoD rows todo)) (hz : acc.length + 20 * todo.length ≤ 100000) (hn : n = todo.length)
theorem ite_le (p : Prop) [Decidable p] (a : Nat) : (if p then a else 0) ≤ a := by
  by_cases h : p
  · rw [if_pos h]; exact Nat.le_refl _
  · rw [if_neg h]; exact Nat.zero_le _
theorem total_lt (rows : Rows) (x : Path) : total rows x < 256 := by
  show (if x ∈ rows 0 then mk 0 else 0) + (if x ∈ rows 1 then mk 1 else 0) + (if x ∈ rows 2 then mk 2 else 0) + (if x ∈ rows 3 then mk 3 else 0) < 256
  exact Nat.lt_of_le_of_lt (Nat.add_le_add (Nat.add_le_add (Nat.add_le_add (ite_le _ _) (ite_le _ _)) (ite_le _ _)) (ite_le _ _)) (by decide : mk 0 + mk 1 + mk 2 + mk 3 < 256)
theorem Mid.some {rows R : Rows} {bs : Bs} {js h : Nat} {h0 : Hd} {t : List Hd} {todo : List Path} (m : Mid rows bs js h R (h0 :: t) μ) (hR : ∀ k, k < 4 → R k = rest rows todo k) (td : Todo rows todo) : ∃ x todo', todo = x :: todo' ∧ h0.p = pth x := by
  cases todo with
  | nil =>
    obtain ⟨k, x, q, hk, e, _⟩ := m.hr.of h0 (.head _)
    rw [hR k hk] at e; cases e
  | cons x todo =>
    obtain ⟨k, hk, mx⟩ := td.own x (.head _)
    obtain ⟨h, t, e, e2⟩ := (Round.start hR).top td m.hr m.hp hk (by rw [hR k hk, rest_cons_in mx]; rfl)
    cases e
    exact ⟨x, todo, rfl, e2⟩
theorem Mid.none {rows R : Rows} {bs : Bs} {js h : Nat} {todo : List Path} (m : Mid rows bs js h R [] μ) (hR : ∀ k, k < 4 → R k = rest rows todo k) (td : Todo rows todo) : todo = [] := by
  cases todo with
  | nil => rfl
  | cons x todo =>
    obtain ⟨k, hk, mx⟩ := td.own x (.head _)
    cases m.hr.all k x _ hk ((hR k hk).trans (rest_cons_in mx))
theorem Todo.tail {rows : Rows} {x : Path} {todo : List Path} (td : Todo rows (x :: todo)) : Todo rows todo := ⟨(List.pairwise_cons.mp td.ord).2, fun y m => td.good y (.tail _ m), fun y m => td.own y (.tail _ m)⟩
theorem outer_loop (H : Oks G) {rows R : Rows} {todo : List Path} {bs : Bs} {js h : Nat} {x1 x2 x6 x7 x8 x9 x10 x11 x12 x13 : Option D} {L : List Hd} {E : List Nat} {Q : FQ} {X : MX} (ap : ApartB bs js h) (m : Mid rows bs js h R L μ) (hR : ∀ k, k < 4 → R k = rest rows todo k) (td : Todo rows todo)
    (hz : todo.length ≤ 1000) (he : E = encs [] (todoD rows todo)) (hQ : ∀ (ρ : Rho) (μ : Mu), look ρ 4 = some (natsD E) → Q .next ρ μ) :
    vWhile G (k + 10) (PE.loc 3) (vSeq (vSet G (k + 10) 6 (((PE.loc 3).idx (PE.int 0)).idx (PE.int 3))) (vSeq (vSet G (k + 10) 7 (PE.int 0)) (vSeq (vWhile G (k + 10) ((PE.loc 3).and (PE.cmp Cop.eq (((PE.loc 3).idx (PE.int 0)).idx (PE.int 3)) (PE.loc 6))) (vSeq (vSet G (k + 10) 8 (((PE.loc 3).idx (PE.int 0)).idx (PE.int 1))) (vSeq (vAug G (k + 10) 7 Bop.add (((PE.loc 3).idx (PE.int 0)).idx (PE.int 2))) (vSeq (vSet G (k + 10) 2 (PE.call Fn.head [(PE.loc 0).idx (PE.loc 8), PE.loc 8, PE.loc 6]))
      (vSeq (vIf G (k + 10) (PE.cmp Cop.is (PE.loc 2) PE.none) (vSeq (vExpr G (k + 10) (PE.call Fn.pop [PE.loc 3])) vSkip) (vSeq (vExpr G (k + 10) (PE.call Fn.replace [PE.loc 3, PE.loc 2])) vSkip)) vSkip)))))
      (vSeq (vSet G (k + 10) 9 (PE.call Fn.common [PE.list false [PE.loc 5, PE.loc 6]])) (vSeq (vSet G (k + 10) 10 (PE.int 0)) (vSeq (vWhile G (k + 10) (PE.cmp Cop.notin (PE.loc 5) (PE.tup [PE.loc 9, PE.str [47]])) (vSeq (vSet G (k + 10) 5 (PE.call Fn.dirname [PE.loc 5])) (vSeq (vAug G (k + 10) 10 Bop.add (PE.int 1)) vSkip)))
      (vSeq (vSet G (k + 10) 11 (PE.loc 6)) (vSeq (vSet G (k + 10) 12 (PE.list false [])) (vSeq (vWhile G (k + 10) (PE.cmp Cop.notin (PE.loc 11) (PE.tup [PE.loc 9, PE.str [47]])) (vSeq (vSet G (k + 10) 12 (PE.bin Bop.add (PE.list false [PE.call Fn.basename [PE.loc 11]]) (PE.loc 12))) (vSeq (vSet G (k + 10) 11 (PE.call Fn.dirname [PE.loc 11])) vSkip)))
      (vSeq (vSet G (k + 10) 4 (PE.bin Bop.add (PE.loc 4) (PE.list false [PE.loc 7, PE.loc 10, PE.bi Bi.len [PE.loc 12]]))) (vSeq (vFor G (k + 10) 13 false (PE.loc 12) (vSeq (vSet G (k + 10) 4 (PE.bin Bop.add (PE.bin Bop.add (PE.loc 4) (PE.list false [PE.bi Bi.len [PE.loc 13]])) (PE.lc false (PE.bi Bi.ord [PE.loc 1]) [none, none] 1 false (PE.loc 13) []))) vSkip)) (vSeq (vSet G (k + 10) 5 (PE.loc 6)) vSkip))))))))))))
      (rhoM js h x1 x2 (some (.list [])) (some (.str [47])) x6 x7 x8 [x9, x10, x11, x12, x13]) μ Q X := by
  refine ⟨InvO rows bs js h E, _, ⟨todo, R, L, [], [], x1, x2, x6, x7, x8, x9, x10, x11, x12, x13, rfl, m, hR, td, ⟨Nat.zero_le _, fun g m => nomatch m⟩, he, by show 0 + _ ≤ _; exact ar208 hz, rfl⟩, ?_⟩
  rintro _ _ μ ⟨todo, R, L, acc, last, x1, x2, x6, x7, x8, x9, x10, x11, x12, x13, rfl, m, hR, td, gl, he, hz, rfl⟩
  refine getMuI m.hm ?_
  cases L with
  | nil =>
    have := m.none hR td
    subst this
    rw [show acc ++ encs last (todoD rows []) = acc from List.append_nil _] at he
    subst he
    exact ⟨fun q => (ff_tt q), fun zz => hQ _ _ rfl⟩
  | cons h0 t =>
    obtain ⟨x, todo, rfl, e0⟩ := m.some hR td
    refine ⟨fun zz => ?_, fun q => (nomatch q)⟩
    refine getMuI m.hm (atDI (Int.le_refl _) rfl ?_)
    refine ⟨by decide, ?_⟩
    have gx := td.good x (.head _)
    rw [e0]
    refine inner_loop H (r := [x9, x10, x11, x12, x13]) ap td (Round.start hR) m (Round.total td.later hR) fun R' L' x2 x8 μ d1 m => ?_
    refine ⟨Nat.le_of_ble_eq_true rfl, c_common H gl gx ?_⟩
    obtain ⟨s1, s2⟩ := sameN_le last x
    have hs := sameN_take last x
    generalize hsn : sameN last x = s at s1 s2 hs
    refine up_loop H (r5 := Option.none) (r10 := Option.none) gl s1 ?_
    rw [hs]
    refine ⟨Nat.le_of_ble_eq_true rfl, ?_⟩
    refine down_loop H gx s2 ?_
    have hz : acc.length + 20 * (todo.length + 1) ≤ 100000 := hz
    refine ⟨Nat.le_of_ble_eq_true rfl, by rw [List.length_map]; show _ + 3 ≤ 16777216; exact ar203 hz, ?_⟩
    have e2 : (acc.map fun c => D.int (c : Nat)) ++ [D.int (total rows x : Nat), D.int ((last.length - s : Nat) : Int), D.int (((x.drop s).map D.str).length : Nat)] = (acc ++ [total rows x, last.length - s, x.length - s]).map fun c => D.int (c : Nat) := by rw [List.map_append, List.length_map, List.length_drop]; rfl
    rw [e2]
    have gd : ∀ g ∈ x.drop s, GoodN g := fun g m => gx.all g (List.mem_of_mem_drop m)
    have ld : (x.drop s).length ≤ 3 := by rw [List.length_drop]; have := gx.len; exact ar238 this
    have lt := encN_len gd
    refine name_loop (o := 4) (t := 13) (by decide) (x.drop s) (rhoM js h x1 x2 Option.none (some (.str (pth (x.take s)))) (some (.str (pth x))) (some (.int (total rows x : Nat))) x8 [some (.str (pth (x.take s))), some (.int (last.length - s : Nat)), some (.str (pth (x.take s))), some (strsD (x.drop s)), Option.none]) _ x13 (Nat.le_of_ble_eq_true rfl) (Nat.le_of_ble_eq_true rfl) gd (by rw [List.length_append]; show _ + 3 + _ ≤ _; exact ar239 hz ld) fun w => ?_
    refine ⟨todo.length, Nat.lt_succ_self _, todo, R', L', _, x, x1, x2, _, _, x8, _, _, _, _, w, rfl, m, d1, td.tail, gx, ?_, ?_, rfl⟩
    · rw [he, ← hsn, List.append_assoc, List.append_assoc]; rfl
    · rw [List.length_append, List.length_append]; show _ + 3 + _ + _ ≤ _; exact ar240 hz ld lt
end
section
open Classical
variable {G : GG} {k n : Nat} {μ : Mu} {ρ : Rho} {Q : D → Mu → Prop} {X : List Nat → Mu → Prop}
theorem At.app {b : List UInt8} {i p : Nat} {o : Option (List D)} (h : At μ b i p) : At (μ ++ [o]) b i p := ⟨(List.getElem?_append_left h.lt).trans h.mu, h.le, h.big⟩
theorem Ms.app {bs : Bs} {js : Nat} {R : Rows} {o : Option (List D)} (m : Ms bs js μ R) : Ms bs js (μ ++ [o]) R :=
  ⟨(List.getElem?_append_left (List.getElem?_eq_some_iff.mp m.strms).1).trans m.strms, fun k x q hk e => (m.st k x q hk e).imp fun p t => ⟨t.1.app, t.2⟩⟩
structure StrmsOk (rows : Rows) (bs : Bs) (js : Nat) (μ : Mu) : Prop where
  strms : μ[js]? = some (some (strmsD bs))
  inj : ∀ j k, j < 4 → k < 4 → (bs j).2 = (bs k).2 → j = k
  nj : ∀ k, k < 4 → (bs k).2 ≠ js
  told : ∀ k, k < 4 → Told μ bs k [] (rows k)
theorem StrmsOk.apart {rows : Rows} {bs : Bs} {js : Nat} (s : StrmsOk rows bs js μ) : ApartB bs js μ.length :=
  ⟨s.inj, s.nj, fun k hk e => (s.told k hk).elim fun p t => Nat.lt_irrefl _ (e ▸ t.1.lt), fun e => Nat.lt_irrefl _ (e ▸ (List.getElem?_eq_some_iff.mp s.strms).1)⟩
theorem todo_rows {rows : Rows} {todo : List Path} (td : Todo rows todo) (hs : ∀ k, (rows k).Pairwise fun a b => ltL a b = true) (hin : ∀ k x, k < 4 → x ∈ rows k → x ∈ todo) {k : Nat} (hk : k < 4) : rows k = rest rows todo k :=
  ltL_strict.uniq (hs k) (td.ord.filter _) fun x => ⟨fun m => List.mem_filter.mpr ⟨hin k x hk m, decide_eq_true m⟩, fun m => of_decide_eq_true (List.mem_filter.mp m).2⟩
theorem c_merged (H : Oks G) {rows : Rows} {bs : Bs} {js : Nat} {todo : List Path} (s : StrmsOk rows bs js μ) (td : Todo rows todo) (hs : ∀ k, (rows k).Pairwise fun a b => ltL a b = true) (hin : ∀ k x, k < 4 → x ∈ rows k → x ∈ todo) (gr : ∀ k, ∀ y ∈ rows k, GoodP y) (hz : todo.length ≤ 1000)
    (h : ∀ μ', Q (.bytes (bts (encs [] (todoD rows todo)))) μ') : callC G (k + 12) .merged [.mut js] μ Q X := by
  refine go (H _).1 (H _).2 "_law_merged" [(270, 1)] [] ["streams"] [some (.mut js), none, none, none, none, none, none, none, none, none, none, none, none, none] (by kernel_rfl) (by kernel_rfl) (by kernel_rfl) rfl (bind_pure fun pm code doc vs hl => by obtain ⟨v, rfl⟩ := len1 hl; kernel_rfl) t_merged (by kernel_rfl) ?_
  refine getMuI s.strms ⟨⟨Int.natCast_nonneg _, by rw [List.length_map, List.length_range]; decide⟩, Nat.le_of_ble_eq_true rfl, ?_⟩
  refine first_heads H s.apart gr rfl 4 0 μ rfl s.strms (fun k x q hk => absurd hk (Nat.not_lt_zero _)) (fun k hk zz => s.told k hk) fun μ1 hl ms => ?_
  rw [if_neg Bool.false_ne_true]
  refine ⟨Nat.le_of_ble_eq_true rfl, ?_⟩
  refine heads_ok (rows := rows) (List.range' 0 4) ?_
  rw [if_pos rfl, heads0_opts]
  obtain ⟨i1, i2, i3, i4⟩ := heads0_in (rows := rows) (List.range' 0 4)
  have r4 : ∀ k, k ∈ List.range' 0 4 ↔ k < 4 := fun k => by rw [List.mem_range'_1]; exact ⟨fun q => Nat.zero_add 4 ▸ q.2, fun q => ⟨Nat.zero_le _, q⟩⟩
  have ap := s.apart
  rw [← hl] at ap
  have hm : ∀ L : List Hd, (μ1 ++ [some (L.map hdD)])[μ1.length]? = some (some (L.map hdD)) := fun L => List.getElem?_concat_length
  have nd := i3 (by decide)
  refine c_heapify H (hm _) (Nat.le_trans i4 (by decide)) nd fun L p1 p2 => ?_
  refine ⟨Nat.le_of_ble_eq_true rfl, ?_⟩
  have hr0 : HeapR rows (heads0 rows (List.range' 0 4)) := ⟨fun y m => (i1 y m).imp fun k h => h.imp fun x h => h.imp fun q h => ⟨(r4 k).mp h.1, h.2⟩, fun k x q hk e => i2 k x q ((r4 k).mpr hk) e, nd⟩
  have m : Mid rows bs js μ1.length rows L (muH (μ1 ++ [some ((heads0 rows (List.range' 0 4)).map hdD)]) μ1.length L) :=
    ⟨(ms.app).heap ap, List.getElem?_set_self (by rw [List.length_append]; exact Nat.lt_succ_self _), p2, hr0.perm p1, by rw [p1.length_eq]; exact i4⟩
  obtain ⟨g1, g2⟩ := encs_small (due := todoD rows todo) (last := []) ⟨Nat.zero_le _, fun g m => nomatch m⟩ fun r m => by
    obtain ⟨x, mx, rfl⟩ := List.mem_map.mp m
    exact ⟨td.good x mx, total_lt rows x⟩
  rw [List.length_map] at g2
  refine outer_loop H ap m (fun k hk => todo_rows td hs hin hk) td hz rfl fun ρ μ e => ?_
  show match look ρ 4 with | some d => _ | none => False
  rw [e]
  exact ⟨bts (encs [] (todoD rows todo)), nats_bts g1, by unfold bts big; rw [List.length_map]; lia, h _⟩
end
section
open Classical
variable {G : GG} {k n : Nat} {μ : Mu} {ρ : Rho} {Q : D → Mu → Prop} {X : List Nat → Mu → Prop}
noncomputable abbrev rowsD (rows : Rows) : D := .list ((List.range 4).map fun k => namesD (rows k))
theorem strsD_mem {a : Path} {l : List Path} : strsD a ∈ l.map strsD ↔ a ∈ l :=
  ⟨fun h => (List.mem_map.mp h).elim fun b h => strsD_inj.mp h.2 ▸ h.1, fun h => List.mem_map_of_mem h⟩
theorem has_row (l : List Path) (a : Path) : ∃ sh, Has sh (strsD a) ∧ (∀ d ∈ l.map strsD, Has sh d) ∧ sh.dp ≤ 100 :=
  ⟨.list .str, has_strs a, fun d m => (List.mem_map.mp m).elim fun b h => h.2 ▸ has_strs b, Nat.le_of_ble_eq_true rfl⟩
theorem dec_in (a : Path) (l : List Path) {p q : Prop} (h1 : a ∈ l → p) (h2 : a ∉ l → q) : (decide (strsD a ∈ l.map strsD) = true → p) ∧ (decide (strsD a ∈ l.map strsD) = false → q) :=
  ⟨fun h => h1 (strsD_mem.mp (of_decide_eq_true h)), fun h => h2 fun m => of_decide_eq_false h (strsD_mem.mpr m)⟩
theorem dec_out (a : Path) (l : List Path) {p q : Prop} (h1 : a ∉ l → p) (h2 : a ∈ l → q) : (decide (strsD a ∉ l.map strsD) = true → p) ∧ (decide (strsD a ∉ l.map strsD) = false → q) :=
  ⟨fun h => h1 fun m => of_decide_eq_true h (strsD_mem.mpr m), fun h => h2 (strsD_mem.mp (Classical.not_not.mp (of_decide_eq_false h)))⟩
theorem new_ok {ev : List Path} {cap : List (Option Nat)} (hc : capRho ρ cap = [none, none, some (namesD ev)]) : ∀ (l : List Path) {K : List (Option D) → Mu → Prop}, K (l.map fun a => if a ∉ ev then some (strsD a) else none) μ →
    seqC (fun d μ₂ K => vcIfs G k [PE.cmp Cop.notin (PE.loc 1) (PE.loc 2)] (put (capRho ρ cap) 1 (some d)) μ₂ (fun ok μ₃ => (ok = true → vcE G k (PE.loc 1) (put (capRho ρ cap) 1 (some d)) μ₃ (fun y => K (some y)) (fun zz zz => False)) ∧ (ok = false → K none μ₃)) (fun zz zz => False)) (l.map strsD) μ K := by
  rw [hc]
  intro l
  induction l with
  | nil => exact fun h => h
  | cons a l ih =>
    intro K h
    have h : K ((if a ∉ ev then some (strsD a) else none) :: l.map fun a => if a ∉ ev then some (strsD a) else none) μ := h
    refine ⟨has_row ev a, dec_out a ev (fun c => ⟨fun zz => ih ?_, fun q => (nomatch q)⟩) fun c => ⟨fun q => (nomatch q), fun zz => ih ?_⟩⟩
    · rw [if_pos c] at h; exact h
    · rw [if_neg fun q => q c] at h; exact h
theorem opts_new (ev : List Path) : ∀ l : List Path, optsD (l.map fun a => if a ∉ ev then some (strsD a) else none) = (l.filter fun a => decide (a ∉ ev)).map strsD
  | [] => rfl
  | a :: l => by
    rw [List.map_cons]
    by_cases c : a ∉ ev
    · rw [if_pos c, List.filter_cons_of_pos (p := fun a => decide (a ∉ ev)) (decide_eq_true c)]; exact congrArg (strsD a :: ·) (opts_new ev l)
    · rw [if_neg c, List.filter_cons_of_neg (p := fun a => decide (a ∉ ev)) (by rw [decide_eq_false c]; exact Bool.false_ne_true)]; exact opts_new ev l
structure Rk (rows : Rows) : Prop where
  ord : ∀ k, (rows k).Pairwise fun a b => ltL a b = true
  good : ∀ k, ∀ y ∈ rows k, GoodP y
  len : ∀ k, (rows k).length ≤ 6
theorem strict_nodup {l : List Path} (h : l.Pairwise fun a b => ltL a b = true) : l.Nodup := h.imp fun {a b} (q : ltL a b = true) (e : a = b) => ltL_strict.irr b (e ▸ q)
theorem every_loop {rows : Rows} (rk : Rk rows) {x0 x3 x4 : Option D} {Q : FQ} {X : MX} : ∀ (ks : List Nat) (ev : List Path) (w : Option D), ev.Nodup → (∀ y ∈ ev, ∃ k, k < 4 ∧ y ∈ rows k) → (∀ j ∈ ks, j < 4) → ev.length + 6 * ks.length ≤ 24 →
    (∀ ev' w, ev'.Nodup → (∀ y ∈ ev', ∃ k, k < 4 ∧ y ∈ rows k) → (∀ y ∈ ev, y ∈ ev') → (∀ j ∈ ks, ∀ y ∈ rows j, y ∈ ev') → ev'.length ≤ 24 → Q .next [x0, some (namesD ev'), w, x3, x4] μ) →
    forC (step1 2 (vSeq (vSet G k 1 (PE.bin Bop.add (PE.loc 1) (PE.lc false (PE.loc 1) [none, none, some 1] 1 false (PE.loc 2) [PE.cmp Cop.notin (PE.loc 1) (PE.loc 2)]))) vSkip) X) (ks.map fun j => namesD (rows j)) [x0, some (namesD ev), w, x3, x4] μ Q
  | [], ev, w, nd, own, _, hz, h => h ev w nd own (fun zz m => m) (fun zz m => nomatch m) hz
  | j :: ks, ev, w, nd, own, hk, hz, h => by
    have hz : ev.length + 6 * (ks.length + 1) ≤ 24 := hz
    have hl := rk.len j
    refine ⟨by rw [List.length_map]; exact Nat.le_trans hl (by decide), ?_⟩
    refine new_ok (ev := ev) rfl (rows j) ?_
    rw [if_neg Bool.false_ne_true, opts_new]
    have hf : ((rows j).filter fun a => decide (a ∉ ev)).length ≤ 6 := Nat.le_trans (List.length_filter_le _ _) hl
    refine ⟨by rw [List.length_map, List.length_map]; show _ ≤ 16777216; omega, ?_⟩
    rw [← List.map_append]
    have sub : ∀ y, y ∈ ev ++ (rows j).filter (fun a => decide (a ∉ ev)) → y ∈ ev ∨ y ∈ rows j ∧ y ∉ ev := fun y m =>
      (List.mem_append.mp m).imp id fun m => ⟨(List.mem_filter.mp m).1, of_decide_eq_true (List.mem_filter.mp m).2⟩
    refine every_loop rk ks (ev ++ (rows j).filter fun a => decide (a ∉ ev)) _ ?_ (fun y m => ?_) (fun i m => hk i (.tail _ m)) (by rw [List.length_append]; exact ar241 hz hf) fun ev' w n1 n2 n3 n4 n5 => h ev' w n1 n2 (fun y m => n3 y (List.mem_append_left _ m)) (fun i m y my => ?_) n5
    · refine List.nodup_append.mpr ⟨nd, (strict_nodup (rk.ord j)).filter _, fun a ma b mb e => ?_⟩
      exact of_decide_eq_true (List.mem_filter.mp mb).2 (e ▸ ma)
    · rcases sub y m with m | m
      · exact own y m
      · exact ⟨j, hk j (.head _), m.1⟩
    · rcases List.mem_cons.mp m with rfl | m
      · by_cases c : y ∈ ev
        · exact n3 y (List.mem_append_left _ c)
        · exact n3 y (List.mem_append_right _ (List.mem_filter.mpr ⟨my, decide_eq_true c⟩))
      · exact n4 i m y my
end
section
open Classical
variable {G : GG} {k n : Nat} {μ : Mu} {ρ : Rho} {Q : D → Mu → Prop} {X : List Nat → Mu → Prop}
noncomputable abbrev markOpt (rows : Rows) (x : Path) (j : Nat) : Option D := if x ∈ rows j then some (.int (mk j : Nat)) else none
theorem mark_at {j : Nat} (hj : j < 4) : [D.int 130, D.int 7, D.int 64, D.int 32][j]? = some (.int (mk j : Nat)) := by
  match j, hj with
  | 0, _ => rfl
  | 1, _ => rfl
  | 2, _ => rfl
  | 3, _ => rfl
theorem rows_at {rows : Rows} {j : Nat} (hj : j < 4) : ((List.range 4).map fun k => namesD (rows k))[j]? = some (namesD (rows j)) := by rw [List.getElem?_map, List.getElem?_range hj]; rfl
theorem marks_ok {rows : Rows} {x : Path} {cap : List (Option Nat)} (hc : capRho ρ cap = [none, none, some (strsD x), some (rowsD rows)]) : ∀ (ks : List Nat) {K : List (Option D) → Mu → Prop}, (∀ j ∈ ks, j < 4) → K (ks.map (markOpt rows x)) μ →
    seqC (fun d μ₂ K => vcIfs G k [PE.cmp Cop.isin (PE.loc 2) ((PE.loc 3).idx (PE.loc 1))] (put (capRho ρ cap) 1 (some d)) μ₂ (fun ok μ₃ => (ok = true → vcE G k ((PE.tup [PE.int 130, PE.int 7, PE.int 64, PE.int 32]).idx (PE.loc 1)) (put (capRho ρ cap) 1 (some d)) μ₃ (fun y => K (some y)) (fun zz zz => False)) ∧ (ok = false → K none μ₃)) (fun zz zz => False)) (ks.map fun i => .int (i : Nat)) μ K := by
  rw [hc]
  intro ks
  induction ks with
  | nil => exact fun zz h => h
  | cons j ks ih =>
    intro K hk h
    have hj := hk j (.head _)
    have hk2 : ∀ i ∈ ks, i < 4 := fun i m => hk i (.tail _ m)
    have h : K (markOpt rows x j :: ks.map (markOpt rows x)) μ := h
    refine atDI (Int.natCast_nonneg _) (rows_at hj) ⟨has_row (rows j) x, dec_in x (rows j) (fun c => ⟨fun zz => ⟨Nat.le_of_ble_eq_true rfl, atDI (Int.natCast_nonneg _) (mark_at hj) (ih hk2 ?_)⟩, fun q => (nomatch q)⟩) fun c => ⟨fun q => (nomatch q), fun zz => ih hk2 ?_⟩⟩
    · rw [show markOpt rows x j = some (.int (mk j : Nat)) from if_pos c] at h; exact h
    · rw [show markOpt rows x j = none from if_neg c] at h; exact h
noncomputable def marksI (rows : Rows) (x : Path) : List Nat → List Int
  | [] => []
  | j :: ks => if x ∈ rows j then (mk j : Int) :: marksI rows x ks else marksI rows x ks
theorem opts_marks {rows : Rows} {x : Path} : ∀ ks : List Nat, optsD (ks.map (markOpt rows x)) = intsD (marksI rows x ks)
  | [] => rfl
  | j :: ks => by
    show optsD (markOpt rows x j :: _) = _
    unfold marksI
    by_cases c : x ∈ rows j
    · rw [if_pos c, show markOpt rows x j = some (.int (mk j : Nat)) from if_pos c]; exact congrArg (D.int (mk j : Nat) :: ·) (opts_marks ks)
    · rw [if_neg c, show markOpt rows x j = none from if_neg c]; exact opts_marks ks
theorem marks_cons {rows : Rows} {x : Path} (j : Nat) (ks : List Nat) : (marksI rows x (j :: ks)).sum = ((if x ∈ rows j then mk j else 0 : Nat) : Int) + (marksI rows x ks).sum := by
  show (if x ∈ rows j then (mk j : Int) :: marksI rows x ks else marksI rows x ks).sum = _
  by_cases c : x ∈ rows j
  · rw [if_pos c, if_pos c]; rfl
  · rw [if_neg c, if_neg c]; exact (Int.zero_add _).symm
theorem marks_sum {rows : Rows} {x : Path} : (marksI rows x [0, 1, 2, 3]).sum = (total rows x : Nat) := by
  rw [marks_cons, marks_cons, marks_cons, marks_cons, show total rows x = (if x ∈ rows 0 then mk 0 else 0) + (if x ∈ rows 1 then mk 1 else 0) + (if x ∈ rows 2 then mk 2 else 0) + (if x ∈ rows 3 then mk 3 else 0) from rfl]
  show _ + (_ + (_ + (_ + (0 : Int)))) = _
  simp +arith
theorem due_loop {rows : Rows} {t : Nat} {x1 x2 : Option D} {Q : FQ} {X : MX} : ∀ (todo : List Path) (acc : List D) (w : Option D) (μ : Mu), μ[t]? = some (some acc) → acc.length + todo.length ≤ 1000 →
    (∀ w, Q .next [some (rowsD rows), x1, x2, w, some (.mut t)] (μ.set t (some (acc ++ (todoD rows todo).map rowD)))) →
    forC (step1 3 (vSeq (vExpr G k (PE.me Me.append (PE.loc 4) [PE.tup [PE.loc 3, PE.bi Bi.sum [PE.lc false ((PE.tup [PE.int 130, PE.int 7, PE.int 64, PE.int 32]).idx (PE.loc 1)) [none, none, some 3, some 0] 1 true (PE.int 4) [PE.cmp Cop.isin (PE.loc 2) ((PE.loc 3).idx (PE.loc 1))]]]])) vSkip) X) (todo.map strsD) [some (rowsD rows), x1, x2, w, some (.mut t)] μ Q
  | [], acc, w, μ, hm, _, h => by
    have := h w
    rw [show acc ++ (todoD rows []).map rowD = acc from List.append_nil _, ← (List.getElem?_eq_some_iff.mp hm).2, List.set_getElem_self] at this
    exact this
  | x :: todo, acc, w, μ, hm, hz, h => by
    have hz : acc.length + (todo.length + 1) ≤ 1000 := hz
    refine ⟨⟨t, rfl⟩, ⟨by decide, by decide⟩, by decide, ?_⟩
    refine marks_ok (rows := rows) (x := x) rfl [0, 1, 2, 3] (by decide) ?_
    rw [if_neg Bool.false_ne_true, opts_marks]
    refine ⟨_, rfl, Nat.le_of_ble_eq_true rfl, getMuI hm ⟨by exact ar224 hz, ?_⟩⟩
    rw [marks_sum]
    refine due_loop todo (acc ++ [rowD (x, total rows x)]) _ _ (List.getElem?_set_self (List.getElem?_eq_some_iff.mp hm).1) (by rw [List.length_append]; show _ + 1 + _ ≤ _; exact ar226 hz) fun w => ?_
    have := h w
    rw [List.set_set, List.append_assoc]
    exact this
theorem c_union (H : Oks G) {rows : Rows} (rk : Rk rows) (h : ∀ todo, Todo rows todo → (∀ k x, k < 4 → x ∈ rows k → x ∈ todo) → todo.length ≤ 24 → Q (.list ((todoD rows todo).map rowD)) (μ ++ [none])) : callC G (k + 2) .union [rowsD rows] μ Q X := by
  refine go (H _).1 (H _).2 "_law_union" [(220, 1)] [(223, 4)] ["rows"] [some (rowsD rows), none, none, none, none] (by kernel_rfl) (by kernel_rfl) (by kernel_rfl) rfl (bind_pure fun pm code doc vs hl => by obtain ⟨v, rfl⟩ := len1 hl; kernel_rfl) t_union (by kernel_rfl) ?_
  refine ⟨Nat.le_of_ble_eq_true rfl, ?_⟩
  refine every_loop rk (List.range 4) [] none List.nodup_nil (fun zz m => nomatch m) (fun j m => List.mem_range.mp m) (by decide) fun ev w n1 n2 zz n4 n5 => ?_
  refine ⟨Nat.le_of_ble_eq_true rfl, ?_⟩
  have gl : ∀ x ∈ ev, GoodP x := fun x m => (n2 x m).elim fun j h => rk.good j x h.2
  refine ⟨ev, rfl, by exact ar242 n5, fun x m => Nat.le_trans (gl x m).len (by decide), fun todo p1 p2 => ?_⟩
  have nd := p1.nodup_iff.mpr n1
  have td : Todo rows todo := by
    refine ⟨?_, fun x m => gl x (p1.mem_iff.mp m), fun x m => n2 x (p1.mem_iff.mp m)⟩
    refine (p2.and nd).imp fun {a b} q => ?_
    rcases ltL_strict.tri a b with c | c | c
    · exact c
    · exact absurd c q.2
    · rw [q.1] at c; cases c
  have hl : todo.length ≤ 24 := by rw [p1.length_eq]; exact n5
  refine due_loop todo [] none _ List.getElem?_concat_length (by show 0 + _ ≤ _; lia) fun w => ?_
  rw [List.set_append_right _ _ (Nat.le_refl _), Nat.sub_self]
  refine getMuI (List.getElem?_concat_length) ?_
  have := h todo td (fun k x hk m => p1.mem_iff.mpr (n4 k (List.mem_range.mpr hk) x m)) hl
  show Q _ ((μ ++ [_]).set _ _)
  rw [List.set_append_right _ _ (Nat.le_refl _), Nat.sub_self]
  exact this
end
section
open Classical
variable {G : GG} {k n : Nat} {μ : Mu} {ρ : Rho} {Q : D → Mu → Prop} {X : List Nat → Mu → Prop}
noncomputable abbrev menuD : List D := [.str [97], .str [98], .str [97, 45], .str [46, 97], .str [233, 97], .str [46, 46, 46]]
theorem menu_at : ∀ n : Nat, n < 6 → ∃ g, GoodN g ∧ menuD[n]? = some (.str g)
  | 0, _ => ⟨_, ⟨by decide, by decide, by decide, by decide, by decide⟩, rfl⟩
  | 1, _ => ⟨_, ⟨by decide, by decide, by decide, by decide, by decide⟩, rfl⟩
  | 2, _ => ⟨_, ⟨by decide, by decide, by decide, by decide, by decide⟩, rfl⟩
  | 3, _ => ⟨_, ⟨by decide, by decide, by decide, by decide, by decide⟩, rfl⟩
  | 4, _ => ⟨_, ⟨by decide, by decide, by decide, by decide, by decide⟩, rfl⟩
  | 5, _ => ⟨_, ⟨by decide, by decide, by decide, by decide, by decide⟩, rfl⟩
  | n + 6, h => absurd h (Nat.not_lt.mpr (Nat.le_add_left 6 n))
theorem menu_mod (y : Int) : 0 ≤ y % 6 ∧ ∃ g, GoodN g ∧ menuD[(y % 6).toNat]? = some (.str g) :=
  ⟨Int.emod_nonneg _ (by decide), menu_at _ (by have := Int.emod_lt_of_pos y (b := 6) (by decide); exact ar243)⟩
theorem pick_loop {c : Nat} {x0 x1 x2 x4 x5 x8 : Option D} {Q : FQ} {X : MX} : ∀ (ds : List D) (ns : Path) (y : Int) (w : Option D) (μ : Mu), μ[c]? = some (some (ns.map .str)) → ns.length + ds.length ≤ 3 → (∀ g ∈ ns, GoodN g) →
    (∀ ns' y w, GoodP ns' → Q .next [x0, x1, x2, some (.int y), x4, x5, some (.mut c), w, x8] (μ.set c (some (ns'.map .str)))) →
    forC (step1 7 (vSeq (vExpr G k (PE.me Me.append (PE.loc 6) [(PE.tup [PE.str [97], PE.str [98], PE.str [97, 45], PE.str [46, 97], PE.str [233, 97], PE.str [46, 46, 46]]).idx (PE.bin Bop.mod (PE.loc 3) (PE.int 6))])) (vSeq (vAug G k 3 Bop.fdiv (PE.int 6)) vSkip)) X) ds [x0, x1, x2, some (.int y), x4, x5, some (.mut c), w, x8] μ Q
  | [], ns, y, w, μ, hm, hz, hg, h => by
    have := h ns y w ⟨hz, hg⟩
    rw [← (List.getElem?_eq_some_iff.mp hm).2, List.set_getElem_self] at this
    exact this
  | d :: ds, ns, y, w, μ, hm, hz, hg, h => by
    have hz : ns.length + (ds.length + 1) ≤ 3 := hz
    obtain ⟨m1, g, gg, m2⟩ := menu_mod y
    refine ⟨⟨c, rfl⟩, Nat.le_of_ble_eq_true rfl, by decide, atDI m1 m2 (getMuI hm ⟨by rw [List.length_map]; exact ar244 hz, by decide, ?_⟩)⟩
    rw [show ns.map D.str ++ [D.str g] = (ns ++ [g]).map D.str from by rw [List.map_append]; rfl]
    refine pick_loop ds (ns ++ [g]) _ _ _ (List.getElem?_set_self (List.getElem?_eq_some_iff.mp hm).1) (by rw [List.length_append]; show _ + 1 + _ ≤ 3; exact ar245 hz) (fun z m => ?_) fun ns' y w gp => ?_
    · rcases List.mem_append.mp m with m | m
      · exact hg z m
      · exact List.mem_singleton.mp m ▸ gg
    · rw [List.set_set]; exact h ns' y w gp
structure Ri (ps : Rows) (a : Nat) (μ : Mu) : Prop where
  own : ∀ k, k < 4 → μ[a + k]? = some (some ((ps k).map strsD))
  nd : ∀ k, (ps k).Nodup
  good : ∀ k, ∀ y ∈ ps k, GoodP y
noncomputable abbrev mutsD (a : Nat) : D := .list [.mut a, .mut (a + 1), .mut (a + 2), .mut (a + 3)]
theorem muts_at {a j : Nat} (h : j < 4) : [D.mut a, .mut (a + 1), .mut (a + 2), .mut (a + 3)][j]? = some (.mut (a + j)) := by
  match j, h with
  | 0, _ => rfl
  | 1, _ => rfl
  | 2, _ => rfl
  | 3, _ => rfl
theorem Ri.add {ps : Rows} {a j : Nat} {ns : Path} (r : Ri ps a μ) (hj : j < 4) (gn : GoodP ns) (hn : ns ∉ ps j) : Ri (upd ps j (ps j ++ [ns])) a (μ.set (a + j) (some ((ps j ++ [ns]).map strsD))) := by
  have hs : ∀ k, k ≠ j → upd ps j (ps j ++ [ns]) k = ps k := fun k c => if_neg c
  have he : upd ps j (ps j ++ [ns]) j = ps j ++ [ns] := if_pos rfl
  refine ⟨fun k hk => ?_, fun k => ?_, fun k => ?_⟩
  · by_cases c : k = j
    · subst c
      rw [he]; exact List.getElem?_set_self (List.getElem?_eq_some_iff.mp (r.own k hk)).1
    · rw [hs k c, List.getElem?_set_ne fun e => c (Nat.add_left_cancel e).symm]; exact r.own k hk
  · by_cases c : k = j
    · subst c
      rw [he]
      exact List.nodup_append.mpr ⟨r.nd k, List.nodup_cons.mpr ⟨fun m => (nomatch m), List.nodup_nil⟩, fun x m y m2 e => hn (List.mem_singleton.mp m2 ▸ e ▸ m)⟩
    · rw [hs k c]; exact r.nd k
  · by_cases c : k = j
    · subst c
      rw [he]
      intro y m
      rcases List.mem_append.mp m with m | m
      · exact r.good k y m
      · exact List.mem_singleton.mp m ▸ gn
    · rw [hs k c]; exact r.good k
theorem side_loop {a B : Nat} {wh : Int} {ns : Path} {x0 x2 x3 x5 x7 : Option D} {Q : FQ} {X : MX} (gn : GoodP ns) (hB : B ≤ 100) : ∀ (js : List Nat) (ps : Rows) (w : Option D) (μ : Mu), js.Nodup → (∀ j ∈ js, j < 4) → Ri ps a μ → (∀ k, (ps k).length ≤ B + 1 ∧ (k ∈ js → (ps k).length ≤ B)) →
    (∀ ps w μ', Ri ps a μ' → (∀ k, (ps k).length ≤ B + 1) → μ'.length = μ.length → Q .next [x0, some (mutsD a), x2, x3, some (.int wh), x5, some (strsD ns), x7, w] μ') →
    forC (step1 8 (vSeq (vIf G k ((PE.cmp Cop.isin (PE.loc 4) (PE.tup [PE.loc 8, PE.int 4])).and (PE.cmp Cop.notin (PE.loc 6) ((PE.loc 1).idx (PE.loc 8)))) (vSeq (vExpr G k (PE.me Me.append ((PE.loc 1).idx (PE.loc 8)) [PE.loc 6])) vSkip) vSkip) vSkip) X) (js.map fun i => .int (i : Nat)) [x0, some (mutsD a), x2, x3, some (.int wh), x5, some (strsD ns), x7, w] μ Q
  | [], ps, w, μ, _, _, r, hl, h => h ps w μ r (fun k => (hl k).1) rfl
  | j :: js, ps, w, μ, nd, hj, r, hl, h => by
    have h4 := hj j (.head _)
    have nd := List.nodup_cons.mp nd
    have skip : ∀ w, forC (step1 8 (vSeq (vIf G k ((PE.cmp Cop.isin (PE.loc 4) (PE.tup [PE.loc 8, PE.int 4])).and (PE.cmp Cop.notin (PE.loc 6) ((PE.loc 1).idx (PE.loc 8)))) (vSeq (vExpr G k (PE.me Me.append ((PE.loc 1).idx (PE.loc 8)) [PE.loc 6])) vSkip) vSkip) vSkip) X) (js.map fun i => .int (i : Nat)) [x0, some (mutsD a), x2, x3, some (.int wh), x5, some (strsD ns), x7, w] μ Q :=
      fun w => side_loop gn hB js ps w μ nd.2 (fun i m => hj i (.tail _ m)) r (fun k => ⟨(hl k).1, fun m => (hl k).2 (.tail _ m)⟩) h
    refine ⟨Nat.le_of_ble_eq_true rfl, ⟨.int, trivial, fun d m => ?_, Nat.zero_le _⟩, fun zz => ?_, fun zz => ⟨fun q => (nomatch q), fun zz => skip _⟩⟩
    · rcases List.mem_cons.mp m with rfl | m
      · trivial
      · exact List.mem_singleton.mp m ▸ trivial
    refine atDI (Int.natCast_nonneg _) (muts_at h4) (getMuI (r.own j h4) ⟨has_row (ps j) ns, dec_out ns (ps j) (fun c => ?_) fun c => skip _⟩)
    have lj := (hl j).2 (.head _)
    refine atDI (Int.natCast_nonneg _) (muts_at h4) ⟨⟨_, rfl⟩, getMuI (r.own j h4) ⟨by rw [List.length_map]; lia, ?_⟩⟩
    rw [show (ps j).map strsD ++ [D.list (ns.map D.str)] = (ps j ++ [ns]).map strsD from by rw [List.map_append]; rfl]
    refine side_loop gn hB js (upd ps j (ps j ++ [ns])) _ _ nd.2 (fun i m => hj i (.tail _ m)) (r.add h4 gn c) (fun i => ?_) fun ps w μ' r hl e => h ps w μ' r hl (e.trans (List.length_set ..))
    by_cases e : i = j
    · subst e
      rw [show upd ps i (ps i ++ [ns]) i = ps i ++ [ns] from if_pos rfl, List.length_append]
      exact ⟨Nat.succ_le_succ lj, fun m => absurd m nd.1⟩
    · rw [show upd ps j (ps j ++ [ns]) i = ps i from if_neg e]
      exact ⟨(hl i).1, fun m => (hl i).2 (.tail _ m)⟩
end
section
open Classical
variable {G : GG} {k n : Nat} {μ : Mu} {ρ : Rho} {Q : D → Mu → Prop} {X : List Nat → Mu → Prop}
theorem ints_sub {s : List Int} : ∀ l' : List D, (∀ d ∈ l', d ∈ intsD s) → ∃ ns : List Int, l' = intsD ns
  | [], _ => ⟨[], rfl⟩
  | d :: l', h => by
    obtain ⟨ns, e⟩ := ints_sub l' fun d m => h d (.tail _ m)
    obtain ⟨i, _, ei⟩ := List.mem_map.mp (h d (.head _))
    exact ⟨i :: ns, by rw [e, ← ei]; rfl⟩
noncomputable abbrev yE : PE := PE.bin Bop.add (PE.bin Bop.mul (PE.bin Bop.mod (PE.bi Bi.abs [PE.bi Bi.sum [(PE.loc 0).sstep (PE.loc 2) (PE.int 4)]]) (PE.int 99991)) (PE.int 977)) (PE.int 69)
theorem m4 (z : Int) : (0 ≤ z % 4 ∧ z % 4 ≤ 1000000) ∧ (z % 4).toNat ≤ 3 := by exact ar246
theorem Ri.app {ps : Rows} {a : Nat} {o : Option (List D)} (r : Ri ps a μ) : Ri ps a (μ ++ [o]) :=
  ⟨fun k hk => (List.getElem?_append_left (List.getElem?_eq_some_iff.mp (r.own k hk)).1).trans (r.own k hk), r.nd, r.good⟩
theorem rows_loop {a : Nat} {s : List Int} {Q : FQ} {X : MX} (hs : s.length ≤ 1000) : ∀ (js : List Nat) (ps : Rows) (x2 x3 x4 x5 x6 x7 x8 : Option D) (μ : Mu), Ri ps a μ → (∀ k, (ps k).length + js.length ≤ 6) →
    (∀ ps x2 x3 x4 x5 x6 x7 x8 μ, Ri ps a μ → (∀ k, (ps k).length ≤ 6) → Q .next [some (.list (intsD s)), some (mutsD a), x2, x3, x4, x5, x6, x7, x8] μ) →
    forC (step1 2 (vSeq (vSet G k 3 yE) (vSeq (vSet G k 4 (PE.bin Bop.mod (PE.loc 3) (PE.int 5))) (vSeq (vAug G k 3 Bop.fdiv (PE.int 5)) (vSeq (vSet G k 5 (PE.bin Bop.mod (PE.loc 3) (PE.int 4))) (vSeq (vAug G k 3 Bop.fdiv (PE.int 4)) (vSeq (vSet G k 6 (PE.list true []))
      (vSeq (vFor G k 7 true (PE.loc 5) (vSeq (vExpr G k (PE.me Me.append (PE.loc 6) [(PE.tup [PE.str [97], PE.str [98], PE.str [97, 45], PE.str [46, 97], PE.str [233, 97], PE.str [46, 46, 46]]).idx (PE.bin Bop.mod (PE.loc 3) (PE.int 6))])) (vSeq (vAug G k 3 Bop.fdiv (PE.int 6)) vSkip)))
      (vSeq (vFrz 6 (vFor G k 8 true (PE.int 4) (vSeq (vIf G k ((PE.cmp Cop.isin (PE.loc 4) (PE.tup [PE.loc 8, PE.int 4])).and (PE.cmp Cop.notin (PE.loc 6) ((PE.loc 1).idx (PE.loc 8)))) (vSeq (vExpr G k (PE.me Me.append ((PE.loc 1).idx (PE.loc 8)) [PE.loc 6])) vSkip) vSkip) vSkip))) vSkip)))))))) X)
      (js.map fun i => .int (i : Nat)) [some (.list (intsD s)), some (mutsD a), x2, x3, x4, x5, x6, x7, x8] μ Q
  | [], ps, x2, x3, x4, x5, x6, x7, x8, μ, r, hl, h => h ps x2 x3 x4 x5 x6 x7 x8 μ r fun k => hl k
  | j :: js, ps, x2, x3, x4, x5, x6, x7, x8, μ, r, hl, h => by
    have hl : ∀ k, (ps k).length + (js.length + 1) ≤ 6 := hl
    refine ⟨⟨by decide, by rw [intsD, List.length_map]; exact hs⟩, fun l' sub zz => ?_⟩
    obtain ⟨ns, rfl⟩ := ints_sub l' sub
    refine ⟨ns, rfl, by decide, ⟨?_, by decide⟩, ?_⟩
    · have h1 := Int.emod_nonneg (ns.sum.natAbs : Int) (b := 99991) (by decide)
      have h2 := Int.emod_lt_of_pos (ns.sum.natAbs : Int) (b := 99991) (by decide)
      show ((ns.sum.natAbs : Int) % 99991).natAbs < 2 ^ 60
      lia
    refine ⟨by decide, ⟨by decide, by decide⟩, by decide, ⟨by decide, by decide⟩, Nat.le_of_ble_eq_true rfl, ?_⟩
    refine ⟨(m4 _).1, ?_⟩
    refine pick_loop _ [] _ _ _ List.getElem?_concat_length (by rw [rangeD_len]; exact Nat.le_trans (Nat.le_of_eq (Nat.zero_add _)) (m4 _).2) (fun zz m => nomatch m) fun nm y' w gn => ?_
    have e1 : (μ ++ [some ([] : List D)]).set μ.length (some (nm.map D.str)) = μ ++ [some (nm.map D.str)] := by rw [List.set_append_right _ _ (Nat.le_refl _), Nat.sub_self]; rfl
    rw [e1]
    refine getMuI List.getElem?_concat_length ?_
    refine ⟨⟨by decide, by decide⟩, ?_⟩
    have e2 : (μ ++ [some (nm.map D.str)]).set μ.length none = μ ++ [none] := by rw [List.set_append_right _ _ (Nat.le_refl _), Nat.sub_self]; rfl
    rw [e2]
    refine side_loop (B := 5 - js.length) gn (by simp +arith) [0, 1, 2, 3] ps _ _ (by decide) (by decide) r.app (fun k => ⟨by have := hl k; exact ar248 this, fun zz => by have := hl k; exact ar249 this⟩) fun ps w μ' r hB zz => ?_
    exact rows_loop hs js ps _ _ _ _ _ _ _ μ' r (fun k => by have := hB k; have := hl 0; exact ar250 ‹_› this) h
theorem fourR (n0 n1 n2 n3 : List Path) : ∃ rows : Rows, rows 0 = n0 ∧ rows 1 = n1 ∧ rows 2 = n2 ∧ rows 3 = n3 ∧ ∀ k, 4 ≤ k → rows k = [] :=
  ⟨fun k => match k with | 0 => n0 | 1 => n1 | 2 => n2 | 3 => n3 | _ => [], rfl, rfl, rfl, rfl, fun k h => by
    match k, h with
    | k + 4, _ => rfl⟩
theorem strict_of {ns ns' : List Path} (p1 : ns'.Perm ns) (nd : ns.Nodup) (p2 : ns'.Pairwise fun a b => ltL b a = false) : ns'.Pairwise fun a b => ltL a b = true := by
  refine (p2.and (p1.nodup_iff.mpr nd)).imp fun {a b} q => ?_
  rcases ltL_strict.tri a b with c | c | c
  · exact c
  · exact absurd c q.2
  · rw [q.1] at c; exact ff_tt c
theorem one_P {g : Name} (h : GoodN g) : GoodP [g] := ⟨Nat.le_of_ble_eq_true rfl, fun x m => List.mem_singleton.mp m ▸ h⟩
theorem two_P {g g' : Name} (h : GoodN g) (h' : GoodN g') : GoodP [g, g'] := ⟨Nat.le_of_ble_eq_true rfl, List.forall_mem_cons.mpr ⟨h, fun x m => List.mem_singleton.mp m ▸ h'⟩⟩
theorem two_in {p : Path → Prop} {x y : Path} (h : p x) (h' : p y) : ∀ z ∈ [x, y], p z := List.forall_mem_cons.mpr ⟨h, fun z m => List.mem_singleton.mp m ▸ h'⟩
theorem c_rows (H : Oks G) {s : List Int} (hs : s.length ≤ 1000) (h : ∀ rows μ', Rk rows → Q (rowsD rows) μ') : callC G (k + 2) .rows [.list (intsD s)] μ Q X := by
  refine go (H _).1 (H _).2 "_law_rows" [(196, 2), (203, 1)] [(207, 6)] ["script"] [some (.list (intsD s)), none, none, none, none, none, none, none, none] (by kernel_rfl) (by kernel_rfl) (by kernel_rfl) rfl (bind_pure fun pm code doc vs hl => by obtain ⟨v, rfl⟩ := len1 hl; kernel_rfl) t_rows (by kernel_rfl) ?_
  refine ⟨Nat.le_of_ble_eq_true rfl, Nat.le_of_ble_eq_true rfl, Nat.le_of_ble_eq_true rfl, Nat.le_of_ble_eq_true rfl, Nat.le_of_ble_eq_true rfl, Nat.le_of_ble_eq_true rfl, Nat.le_of_ble_eq_true rfl, Nat.le_of_ble_eq_true rfl, Nat.le_of_ble_eq_true rfl, Nat.le_of_ble_eq_true rfl, Nat.le_of_ble_eq_true rfl, ?_⟩
  have L : ∀ (m : Mu) (o : Option (List D)), (m ++ [o]).length = m.length + 1 := fun zz zz => List.length_append
  have L2 : ∀ (m : Mu) (o p : Option (List D)), (m ++ [o] ++ [p]).length = m.length + 2 := fun zz zz zz => by rw [L, L]
  have L3 : ∀ (m : Mu) (o p q : Option (List D)), (m ++ [o] ++ [p] ++ [q]).length = m.length + 3 := fun zz zz zz zz => by rw [L, L, L]
  rw [L3, L2, L, List.append_assoc, List.append_assoc, List.append_assoc]
  have ga : GoodN [97] := ⟨by decide, by decide, by decide, by decide, by decide⟩
  have gb : GoodN [98] := ⟨by decide, by decide, by decide, by decide, by decide⟩
  have gc : GoodN [97, 45] := ⟨by decide, by decide, by decide, by decide, by decide⟩
  have gd : GoodN [46, 97] := ⟨by decide, by decide, by decide, by decide, by decide⟩
  obtain ⟨ps, e0, e1, e2, e3, e4⟩ := fourR [[[97], [98]], [[97, 45]]] [[[97]], [[97], [98]]] [[[46, 97]], [[97]]] []
  refine ⟨⟨by exact ar251, by exact ar252⟩, ?_⟩
  refine rows_loop hs (List.range (min (4 : Int) (((intsD s).length : Nat) : Int)).toNat) ps none none none none none none none _ ⟨fun k hk => ?_, fun k => ?_, fun k => ?_⟩ (fun k => ?_) fun ps x2 x3 x4 x5 x6 x7 x8 μ r hl => ?_
  · rw [List.getElem?_append_right (Nat.le_add_right _ _), Nat.add_sub_cancel_left]
    match k, hk with
    | 0, _ => rw [e0]; rfl
    | 1, _ => rw [e1]; rfl
    | 2, _ => rw [e2]; rfl
    | 3, _ => rw [e3]; rfl
  · match k with
    | 0 => rw [e0]; decide
    | 1 => rw [e1]; decide
    | 2 => rw [e2]; decide
    | 3 => rw [e3]; decide
    | k + 4 => rw [e4 _ (Nat.le_add_left 4 k)]; decide
  · match k with
    | 0 => rw [e0]; exact two_in (two_P ga gb) (one_P gc)
    | 1 => rw [e1]; exact two_in (one_P ga) (two_P ga gb)
    | 2 => rw [e2]; exact two_in (one_P gd) (one_P ga)
    | 3 => rw [e3]; exact fun zz m => nomatch m
    | k + 4 => rw [e4 _ (Nat.le_add_left 4 k)]; exact fun zz m => nomatch m
  · have : (ps k).length ≤ 2 := by
      match k with
      | 0 => rw [e0]; decide
      | 1 => rw [e1]; decide
      | 2 => rw [e2]; decide
      | 3 => rw [e3]; decide
      | k + 4 => rw [e4 _ (Nat.le_add_left 4 k)]; decide
    rw [List.length_range]; exact ar253 this
  have lt : ∀ k, (ps k).length < 64 := fun k => Nat.lt_of_le_of_lt (hl k) (by decide)
  have ln : ∀ k, ∀ y ∈ ps k, y.length ≤ 1000 := fun k y m => Nat.le_trans (r.good k y m).len (by decide)
  refine ⟨Nat.le_of_ble_eq_true rfl, ⟨fun zz => getMuI (r.own 0 (by decide)) ⟨ps 0, rfl, lt 0, ln 0, fun n0 p0 o0 => ?_⟩, fun q => (nomatch q)⟩⟩
  refine ⟨fun zz => getMuI (r.own 1 (by decide)) ⟨ps 1, rfl, lt 1, ln 1, fun n1 p1 o1 => ?_⟩, fun q => (nomatch q)⟩
  refine ⟨fun zz => getMuI (r.own 2 (by decide)) ⟨ps 2, rfl, lt 2, ln 2, fun n2 p2 o2 => ?_⟩, fun q => (nomatch q)⟩
  refine ⟨fun zz => getMuI (r.own 3 (by decide)) ⟨ps 3, rfl, lt 3, ln 3, fun n3 p3 o3 => ?_⟩, fun q => (nomatch q)⟩
  obtain ⟨rows, f0, f1, f2, f3, f4⟩ := fourR n0 n1 n2 n3
  have per : ∀ k, k < 4 → (rows k).Perm (ps k) := fun k hk => by
    match k, hk with
    | 0, _ => rw [f0]; exact p0
    | 1, _ => rw [f1]; exact p1
    | 2, _ => rw [f2]; exact p2
    | 3, _ => rw [f3]; exact p3
  have ord : ∀ k, k < 4 → (rows k).Pairwise fun a b => ltL b a = false := fun k hk => by
    match k, hk with
    | 0, _ => rw [f0]; exact o0
    | 1, _ => rw [f1]; exact o1
    | 2, _ => rw [f2]; exact o2
    | 3, _ => rw [f3]; exact o3
  have rk : Rk rows := by
    refine ⟨fun k => ?_, fun k => ?_, fun k => ?_⟩ <;> rcases Nat.lt_or_ge k 4 with hk | hk
    · exact strict_of (per k hk) (r.nd k) (ord k hk)
    · rw [f4 k hk]; exact .nil
    · exact fun y m => r.good k y ((per k hk).mem_iff.mp m)
    · rw [f4 k hk]; exact fun zz m => nomatch m
    · rw [(per k hk).length_eq]; exact hl k
    · rw [f4 k hk]; exact Nat.zero_le _
  have := h rows μ rk
  rw [show rowsD rows = .list [namesD (rows 0), namesD (rows 1), namesD (rows 2), namesD (rows 3)] from rfl, f0, f1, f2, f3] at this
  exact this
end
section
open Classical
variable {G : GG} {k n : Nat} {μ : Mu} {ρ : Rho} {Q : D → Mu → Prop} {X : List Nat → Mu → Prop}
theorem pairs_ok {k' : Nat} {cap : List (Option Nat)} (hc : capRho ρ cap = [none, none, some (.int (mk k' : Nat))]) : ∀ (l : List Path) {K : List (Option D) → Mu → Prop}, K ((marked k' l).map fun r => some (rowD r)) μ →
    seqC (fun d μ₂ K => vcIfs G k [] (put (capRho ρ cap) 1 (some d)) μ₂ (fun ok μ₃ => (ok = true → vcE G k (PE.tup [PE.loc 1, PE.loc 2]) (put (capRho ρ cap) 1 (some d)) μ₃ (fun y => K (some y)) (fun zz zz => False)) ∧ (ok = false → K none μ₃)) (fun zz zz => False)) (l.map strsD) μ K := by
  rw [hc]
  intro l
  induction l with
  | nil => exact fun h => h
  | cons x l ih => exact fun h => ⟨fun zz => ⟨Nat.le_of_ble_eq_true rfl, ih h⟩, fun q => nomatch q⟩
theorem opts_row : ∀ l : Due, optsD (l.map fun r => some (rowD r)) = l.map rowD
  | [] => rfl
  | r :: l => congrArg (rowD r :: ·) (opts_row l)
theorem toldF_has : ∀ (due : Due) (last : Path) (n : Nat), ∀ d ∈ (toldF last due n).1, Has (.tup [.int, .str]) d
  | [], _, _, _, m => nomatch m
  | r :: due, last, n, d, m => by
    cases e : recCut last r.1 n with
    | some w => rw [toldF_some e] at m; cases m
    | none =>
      rw [toldF_none e] at m
      rcases List.mem_cons.mp m with rfl | m
      · exact ⟨trivial, trivial, trivial⟩
      · exact toldF_has due _ _ d m
noncomputable abbrev bsOf (rows : Rows) (t : Nat) : Bs := fun k => (bts (encs [] (marked k (rows k))), t + 1 + k)
noncomputable abbrev muS (μ : Mu) (rows : Rows) (j : Nat) : Mu := μ ++ some ((List.range' 0 j).map fun k => D.strm (bsOf rows μ.length k).1 (bsOf rows μ.length k).2) :: List.replicate j (some [.int 0])
theorem marked_ok {rows : Rows} (rk : Rk rows) (j : Nat) : GoodD (marked j (rows j)) := ⟨fun r m => (List.mem_map.mp m).elim fun y h => h.2 ▸ ⟨rk.good j y h.1, mk_lt j⟩, by rw [List.length_map]; exact Nat.le_trans (rk.len j) (by decide)⟩
theorem streams_loop (H : Oks G) {rows : Rows} (rk : Rk rows) {x0 x2 x6 x7 : Option D} {Q : FQ} {X : MX} : ∀ (n j : Nat) (w v : Option D), j + n = 4 →
    (∀ w v, Q .next [x0, some (rowsD rows), x2, some (.mut μ.length), w, v, x6, x7] (muS μ rows 4)) →
    forC (step1 4 (vSeq (vSet G (k + 4) 5 ((PE.tup [PE.int 130, PE.int 7, PE.int 64, PE.int 32]).idx (PE.loc 4))) (vSeq (vExpr G (k + 4) (PE.me Me.append (PE.loc 3) [PE.call Fn.stream [PE.call Fn.written [PE.lc false (PE.tup [PE.loc 1, PE.loc 2]) [none, none, some 5] 1 false ((PE.loc 1).idx (PE.loc 4)) []]]])) vSkip)) X)
      ((List.range' j n).map fun i => .int (i : Nat)) [x0, some (rowsD rows), x2, some (.mut μ.length), w, v, x6, x7] (muS μ rows j) Q
  | 0, j, w, v, e, h => by
    obtain rfl : j = 4 := e
    exact h w v
  | n + 1, j, w, v, e, h => by
    have hj : j < 4 := by exact ar233 e
    refine ⟨Nat.le_of_ble_eq_true rfl, atDI (Int.natCast_nonneg _) (mark_at hj) ?_⟩
    refine ⟨⟨_, rfl⟩, atDI (Int.natCast_nonneg _) (rows_at hj) ⟨by rw [List.length_map]; exact Nat.le_trans (rk.len j) (by decide), ?_⟩⟩
    refine pairs_ok (k' := j) rfl (rows j) ?_
    rw [if_neg Bool.false_ne_true, opts_row]
    refine c_written H (marked_ok rk j) (c_stream ?_)
    have hlen : (muS μ rows j).length = μ.length + 1 + j := by
      rw [List.length_append, List.length_cons, List.length_replicate]; simp +arith
    refine getMuI (l := (List.range' 0 j).map fun k => D.strm (bsOf rows μ.length k).1 (bsOf rows μ.length k).2) ?_ ⟨by rw [List.length_map, List.length_range']; exact ar254 hj, ?_⟩
    · rw [List.append_assoc, List.getElem?_append_right (Nat.le_refl _), Nat.sub_self]; rfl
    rw [hlen]
    have e2 : (muS μ rows j ++ [some [D.int 0]]).set μ.length (some ((List.range' 0 j).map (fun k => D.strm (bsOf rows μ.length k).1 (bsOf rows μ.length k).2) ++ [D.strm (bts (encs [] (marked j (rows j)))) (μ.length + 1 + j)])) = muS μ rows (j + 1) := by
      rw [List.append_assoc, List.set_append_right _ _ (Nat.le_refl _), Nat.sub_self]
      show μ ++ (some _ :: (List.replicate j (some [D.int 0]) ++ [some [D.int 0]])) = _
      rw [← List.replicate_succ']
      unfold muS
      rw [List.range'_concat, List.map_append]
      show _ = μ ++ some (_ ++ [D.strm (bsOf rows μ.length (0 + 1 * j)).1 (bsOf rows μ.length (0 + 1 * j)).2]) :: _
      rw [Nat.zero_add, Nat.one_mul]
    rw [e2]
    exact streams_loop H rk n (j + 1) _ _ (by exact ar234 e) h
end
section
open Classical
variable {G : GG} {k n : Nat} {μ : Mu} {ρ : Rho} {Q : D → Mu → Prop} {X : List Nat → Mu → Prop}
theorem streams_ok {rows : Rows} (rk : Rk rows) : StrmsOk rows (bsOf rows μ.length) μ.length (muS μ rows 4) where
  strms := by rw [List.getElem?_append_right (Nat.le_refl _), Nat.sub_self]; rfl
  inj := fun i j zz zz e => Nat.add_left_cancel e
  nj := fun j zz e => by have e : μ.length + 1 + j = μ.length := e; exact ar255 e
  told := fun j hj => by
    obtain ⟨g1, g2⟩ := encs_small (last := []) ⟨Nat.zero_le _, fun g m => nomatch m⟩ (marked_ok rk j).all
    have hl := rk.len j
    rw [List.length_map] at g2
    refine ⟨0, ⟨?_, Nat.zero_le _, by show (List.map _ _).length ≤ 16777216; rw [List.length_map]; lia⟩, rfl⟩
    show (muS μ rows 4)[μ.length + 1 + j]? = _
    rw [List.getElem?_append_right (by simp +arith), show μ.length + 1 + j - μ.length = j + 1 by exact ar256]
    show (List.replicate 4 (some [D.int 0]))[j]? = _
    rw [List.getElem?_replicate, if_pos hj]; rfl
theorem v_law (H : Oks G) {s : List Int} (hs : s.length ≤ 1000) {Q : FQ} {X : MX} (hQ : ∀ ρ μ, Q (.ret (.bool true)) ρ μ) : trD G (k + 12) "law" [(315, 1)] [] [some (.list (intsD s)), none, none, none, none, none, none, none] [] Q X := by
  rw [t_law]
  refine c_rows H hs fun rows μ rk => ?_
  refine c_union H rk fun todo td hin hl => ?_
  generalize μ ++ [none] = μ
  refine ⟨Nat.le_of_ble_eq_true rfl, ⟨by decide, by decide⟩, ?_⟩
  refine streams_loop H (μ := μ) rk 4 0 none none rfl fun w v => ?_
  refine c_merged H (streams_ok rk) td rk.ord hin rk.good (by exact ar257 hl) fun μ => ?_
  have gd : GoodD (todoD rows todo) := ⟨fun r m => (List.mem_map.mp m).elim fun x h => h.2 ▸ ⟨td.good x h.1, total_lt rows x⟩, by rw [List.length_map]; omega⟩
  have hE := (encs_small (last := []) ⟨Nat.zero_le _, fun g m => nomatch m⟩ gd.all).2
  rw [List.length_map] at hE
  refine c_written H gd ⟨fun q => absurd rfl (of_decide_eq_true q), fun zz => ?_⟩
  have hb : (bts (encs [] (todoD rows todo))).length = (encs [] (todoD rows todo)).length := List.length_map _
  obtain ⟨b, be⟩ : ∃ b, bts (encs [] (todoD rows todo)) = b := ⟨_, rfl⟩
  rw [be] at hb ⊢
  refine ⟨s, rfl, by exact ar258, ?_⟩
  have c1 := Int.emod_nonneg (s.sum + 15) (b := (b.length : Int) + 1) (by exact ar259)
  have c2 := Int.emod_lt_of_pos (s.sum + 15) (b := (b.length : Int) + 1) (by simp +arith)
  obtain ⟨cut, hc⟩ : ∃ cut : Nat, (s.sum + 15) % ((b.length : Int) + 1) = cut := ⟨_, (Int.toNat_of_nonneg c1).symm⟩
  rw [hc] at c2 ⊢
  have sh : Has (.tup [.list (.tup [.int, .str]), .str]) (.tup [.list (toldF [] (todoD rows todo) cut).1, .str (toldF [] (todoD rows todo) cut).2]) := ⟨toldF_has _ _ _, trivial, trivial⟩
  rw [← be] at hb c2 ⊢
  refine ⟨⟨Int.natCast_nonneg _, by exact ar260 c2⟩, c_paths H gd fun q => c_told H gd (by lia) ⟨⟨_, sh, sh, Nat.le_of_ble_eq_true rfl⟩, ?_⟩⟩
  rw [Int.toNat_natCast, decide_eq_true rfl]
  exact hQ _ _
end
section
variable {G : GG} {F : Fm} {k n : Nat} {ρ : Rho} {μ : Mu} {W : Wd} {s : Shared} {A : Around} {E : Value → Shared → Prop}
theorem rev_other : isSubtype (.type "range_iterator") (.type "reversed") = pure false := by rw [isSubtype_type]; kernel_rfl
noncomputable abbrev revO (n : Nat) : Obj := { cls := .type "range_iterator", data := .fields #[rawInt ((0 : Int) + ((n : Int) - 1) * 1), rawInt n, rawInt (-1)] }
theorem rev_fit {n : Nat} (h : n ≤ 1000000) : (Builtin.Range.rangeFitsLong 0 && Builtin.Range.rangeFitsLong (n : Int) && Builtin.Range.rangeFitsLong 1 && Builtin.Range.rangeFitsLong (-1) && Builtin.Range.rangeFitsLong (0 - 1) && Builtin.Range.rangeFitsLong (n : Int)) = true := by
  unfold Builtin.Range.rangeFitsLong; simp; exact ar126 h
theorem range_fields {r : Addr} {a b c : Int} {t u v : Tok} {Q : Int × Int × Int → Shared → Prop} (hr : IsRange s.heap r a b c t u v) (h : Q (a, b, c) s) : wpAny G.M A (Builtin.Range.rangeFields (.ref r)) Q E s := by
  unfold Builtin.Range.rangeFields
  refine wpAny_bind (wpAny_field hr rfl (x := .int a t) rfl ?_)
  refine wpAny_bind (wpAny_of_eq (a := some a) rfl ?_)
  refine wpAny_bind (wpAny_field hr rfl (x := .int b u) rfl ?_)
  refine wpAny_bind (wpAny_of_eq (a := some b) rfl ?_)
  refine wpAny_bind (wpAny_field hr rfl (x := .int c v) rfl ?_)
  exact wpAny_bind (wpAny_of_eq (a := some c) rfl (wpAny_pure h))
theorem rev_range {r : Addr} {n : Nat} {t u v : Tok} {Q : Value → Shared → Prop} (hr : IsRange s.heap r 0 (n : Int) 1 t u v) (hn : n ≤ 1000000)
    (h : Q (.ref s.heap.objs.size) { s with heap := s.heap.push (revO n) }) : wpAny G.M A (call (.builtin "range.__reversed__") [.ref r]) Q E s := by
  have hT : s.TypeIs (.ref r) "range" := ⟨_, hr, rfl⟩
  refine wpAny_call_entry F.slot_range_reversed hT F.entry_range_reversed ?_ (F.args_range_reversed_1 _)
  unfold Builtin.«range.__reversed__»
  refine wpAny_bind (wpAny_of_eq (a := Value.ref r) rfl ?_)
  refine wpAny_bind ?_
  refine range_fields hr ?_
  have hs : Builtin.Range.rangeSize 0 n 1 = n := by rw [rangeSize_one]; split <;> (first | exact ar127 | exact ar128 ‹_›)
  show wpAny _ _ (if (!(Builtin.Range.rangeFitsLong 0 && Builtin.Range.rangeFitsLong (n : Int) && Builtin.Range.rangeFitsLong 1 && Builtin.Range.rangeFitsLong (-1) && Builtin.Range.rangeFitsLong (0 - 1) && Builtin.Range.rangeFitsLong (Builtin.Range.rangeSize 0 n 1))) = true then _ else (newFields (if (Builtin.Range.rangeFitsLong 0 && Builtin.Range.rangeFitsLong (n : Int) && Builtin.Range.rangeFitsLong 1 && Builtin.Range.rangeFitsLong (-1) && Builtin.Range.rangeFitsLong (0 - 1) && Builtin.Range.rangeFitsLong (Builtin.Range.rangeSize 0 n 1)) = true then "range_iterator" else "longrange_iterator") [rawInt ((0 : Int) + (Builtin.Range.rangeSize 0 n 1 - 1) * 1), rawInt (Builtin.Range.rangeSize 0 n 1), rawInt (-1)] >>= fun a => ret a)) _ _ s
  rw [hs, rev_fit hn]
  rw [if_neg (show ¬ ((!true) = true) from Bool.false_ne_true), if_pos rfl]
  exact wpAny_bind (wpAny_newObj_type (wpAny_pure ⟨_, rfl, h⟩))
theorem code_rev {r : Addr} {n : Nat} {t u v : Tok} {Q : Value → Shared → Prop} (hr : IsRange s.heap r 0 (n : Int) 1 t u v) (hn : n ≤ 1000000)
    (h : Q (.ref s.heap.objs.size) { s with heap := s.heap.push (revO n) }) : codeAny G.M A (.call (.builtin "reversed.__new__") ⟨[.type "reversed", .ref r], []⟩) (wants Q E) s := by
  have hT : s.TypeIs (.ref r) "range" := ⟨_, hr, rfl⟩
  refine codeAny_of_tree ?_
  show wpAny _ A.in1 (do checkBuiltinCall "reversed.__new__" ⟨[.type "reversed", .ref r], []⟩; again (.builtin "reversed.__new__" ⟨[.type "reversed", .ref r], []⟩)) _ _ s
  refine wpAny_bind (wpAny_of_eq (PySem.F.newCall_reversed_1 _) (wpAny_pure ⟨plainId_quiet PySem.F.plain_reversed_new _, codeAny_builtin PySem.F.entry_reversed_new ?_⟩))
  rw [Around.under_plainId PySem.F.plain_reversed_new _]
  unfold Builtin.«reversed.__new__»
  refine wpAny_bind (wpAny_of_eq (newClass_reversed _) ?_)
  try dsimp only
  refine wpAny_bind (wpAny_of_eq (a := ()) (by first | rfl | kernel_rfl) ?_)
  refine wpAny_bind (wpAny_of_eq (a := ()) (by first | rfl | kernel_rfl) ?_)
  try dsimp only
  refine wpAny_bind (wpAny_specialOf hT F.slot_range_reversed.lookup ?_)
  try dsimp only
  refine wpAny_bind (wpAny_of_eq (F.slot_range_reversed.bind _) ?_)
  try dsimp only
  first
  | rw [if_neg (show ¬ ((Value.builtin "range.__reversed__" == Value.none) = true) from Bool.false_ne_true)]
  | (show wpAny _ _ (if (Value.builtin "range.__reversed__" == Value.none) = true then _ else _) _ _ _; rw [if_neg (show ¬ ((Value.builtin "range.__reversed__" == Value.none) = true) from Bool.false_ne_true)])
  refine wpAny_bind (wpAny_rule ?_)
  refine wpAny_bind (m := runValue (.call (.builtin "range.__reversed__") ⟨[.ref r], []⟩)) (show wpAny _ _ (call (.builtin "range.__reversed__") [.ref r]) _ _ _ from rev_range hr hn ?_)
  first
  | exact wpAny_pure h
  | exact wpAny_bind (wpAny_pure (wpAny_pure h))
theorem call_rev {r : Addr} {n : Nat} {t u v : Tok} {Q : Value → Shared → Prop} (hr : IsRange s.heap r 0 (n : Int) 1 t u v) (hn : n ≤ 1000000)
    (h : Q (.ref s.heap.objs.size) { s with heap := s.heap.push (revO n) }) : wpAny G.M A (call (.type "reversed") [.ref r]) Q E s := by
  refine callType_other (Q₁ := fun obj s₁ => obj = .ref s.heap.objs.size ∧ s₁ = { s with heap := s.heap.push (revO n) }) (by decide +kernel) PySem.F.create_reversed ⟨_, _, PySem.F.mro_reversed⟩ PySem.F.made_reversed rev_other (PySem.F.typeCall_reversed_1 _) (code_rev (G := G) hr hn ⟨rfl, rfl⟩) fun obj s₁ e => ?_
  obtain ⟨rfl, rfl⟩ := e
  exact ⟨⟨_, Heap.get?_push_size _ rfl, rfl⟩, h⟩
end
section
variable {G : GG} {F : Fm} {k n : Nat} {ρ : Rho} {μ : Mu} {W : Wd} {s : Shared} {A : Around}
theorem rev_boot : bootBuiltins "reversed" = some (.type "reversed") := by kernel_rfl
theorem rangeD_rev {m i : Nat} (h : i < m) : (rangeD (m : Nat)).reverse[i]? = some (.int (m - 1 - i : Nat)) := by
  rw [List.getElem?_reverse (by rw [rangeD_len]; exact h), rangeD_len]
  exact rangeD_at (by show m - 1 - i < m; exact ar130 h)
theorem src_rev {QL : List D → Mu → Prop} {X : MX} {e : Expr} {p1 p2 p3 p4 : Pos} (hk : F.env.kindOf "range" = some .globalImplicit) (hk2 : F.env.kindOf "reversed" = some .globalImplicit) (hpl : plainB e = true)
    (h : WG G F k RV ρ μ (eval e F.env) (Un ρ fun x μ₁ => asI x fun n => (0 ≤ n ∧ n ≤ 1000000) ∧ QL (rangeD n).reverse μ₁) X) : SrcW G F k (.Call (.Name "reversed" p1) [.Call (.Name "range" p2) [e] [] p3] [] p4) ρ μ (fun ds ρ₁ μ₁ => ρ₁ = ρ ∧ QL ds μ₁) X := fun W A s ha hr => by
  have hpl2 : plainB (.Call (.Name "range" p2) [e] [] p3) = true := rfl
  refine Call_ (load_bi hr (by decide +kernel) (by decide +kernel) rev_boot hk2 (by decide +kernel) ?_)
  refine Pv.callWith_type1 (args_cons ?_ (star_plain hpl2 [] F.env)) (star_plain hpl2 [] F.env) rfl
  refine Call_ (load_bi hr (by decide +kernel) (by decide +kernel) range_boot hk (by decide +kernel) ?_)
  refine Pv.callWith_type1 (args_cons (wp2 (.refl W) h ha hr (fun v s1 W1 x ρ1 μ1 le1 a1 r1 v1 q1 => ?_) fun zz zz p => p) (star_plain hpl [] F.env)) (star_plain hpl [] F.env) rfl
  refine args_nil ?_
  obtain ⟨rfl, q1⟩ := q1
  obtain ⟨n, rfl, ⟨h0, h1⟩, q⟩ := asIE q1
  obtain ⟨m, rfl⟩ := Int.eq_ofNat_of_zero_le h0
  obtain ⟨t, rfl⟩ := v1.intE
  refine call_range_1 (args_nil ?_)
  have hm : m ≤ 1000000 := Int.ofNat_le.mp h1
  have r2 := r1.keeps (t := s1.toks + 1 + 1) fun b o e => Heap.get?_push_of_some { cls := .type "range", data := .fields #[.int 0 s1.toks, .int m t, .int 1 (s1.toks + 1)] } e
  refine call_rev (IsRange.new _ _ _ _ _ _ _) hm ?_
  have r3 := r2.keeps (t := s1.toks + 1 + 1) fun b o e => Heap.get?_push_of_some (revO m) e
  have st : IsRangeIter ((s1.heap.push { cls := .type "range", data := .fields #[.int 0 s1.toks, .int m t, .int 1 (s1.toks + 1)] }).push (revO m)) (s1.heap.push { cls := .type "range", data := .fields #[.int 0 s1.toks, .int m t, .int 1 (s1.toks + 1)] }).objs.size (((m : Int) - 1) + ((0 : Nat) : Int) * (-1)) ((m : Int) - ((0 : Nat) : Int)) (-1) := by
    rw [show ((m : Int) - 1) + ((0 : Nat) : Int) * (-1) = (0 : Int) + ((m : Int) - 1) * 1 by simp +arith, show (m : Int) - ((0 : Nat) : Int) = m by simp +arith]
    exact Heap.get?_push_size _ rfl
  refine (Walks.range ha.handled _ ((m : Int) - 1) (-1) m).self 0 _ _ _ st ?_
  have hlen : (rangeD (m : Nat)).reverse.length = m := by rw [List.length_reverse, rangeD_len]; rfl
  refine ⟨W1, ρ1, μ1, (rangeD m).reverse, le1, r3, ⟨_, _, fun i v => ∃ t, v = .int (((m : Int) - 1) + (i : Nat) * (-1)) t, fun i h => IsRangeIter h _ (((m : Int) - 1) + (i : Nat) * (-1)) ((m : Int) - (i : Nat)) (-1), rfl, fun A' hA => by rw [hlen]; exact Walks.range hA _ ((m : Int) - 1) (-1) m, st, fun i h e => ⟨_, e, rfl⟩, r2.out_new (push_new (o := default)), fun b hb => .inl (List.mem_singleton.mp hb), fun i v hi hv => ?_⟩, rfl, q⟩
  obtain ⟨t', rfl⟩ := hv
  rw [hlen] at hi
  rw [show ((m : Int) - 1) + (i : Nat) * (-1) = ((m - 1 - i : Nat) : Int) by exact ar131 hi]
  exact ⟨_, rangeD_rev hi, .int _ _⟩
end
section
variable {G : GG} {F : Fm} {k n : Nat} {ρ : Rho} {μ : Mu} {W : Wd} {s : Shared} {A : Around} {Q : FQ} {X : MX} {sc : Sc}
theorem enum_boot : bootBuiltins "enumerate" = some (.type "enumerate") := by kernel_rfl
theorem pairs_at {ds : List D} {j : Nat} {d : D} (h : ds[j]? = some d) : (pairsD ds).drop j = .tup [.int (j : Nat), d] :: (pairsD ds).drop (j + 1) := by
  have e : (pairsD ds)[j]? = some (.tup [.int (j : Nat), d]) := by
    unfold pairsD
    rw [List.getElem?_map, List.getElem?_zipIdx, h]
    show some (D.tup [.int ((0 + j : Nat) : Int), d]) = _
    rw [Nat.zero_add]
  obtain ⟨hl, e2⟩ := List.getElem?_eq_some_iff.mp e
  rw [List.drop_eq_getElem_cons hl, e2]
inductive FE (G : GG) (F : Fm) (W : Wd) (step : D → Rho → Mu → FQ → Prop) (Q : FQ) (ds : List D) (e it : Addr) (b : Addr) (n : Nat) (s' : Shared) : Prop
  | mk (j : Nat) (W' : Wd) (ρ' : Rho) (μ' : Mu) (old : Value) (hj : ds.length = j + n) (le : W.le W') (r : Rel G F W' ρ' μ' s') (he : IsEnum s'.heap e it (j : Nat) old) (hit : s'.heap.IsListIter it b j) (oe : Out F W' e) (oi : Out F W' it) (lx : ∃ us nn, W'.φ b = some (listO us nn) ∧ Vs W'.π W'.φ us.toList ds) (h : forC step ((pairsD ds).drop j) ρ' μ' Q)
theorem Out.other {a T : Addr} {o : Obj} (h : Out F W a) (ne : a ≠ T) : Out F { W with φ := W.φ.set T o } a := ⟨h.1, (if_neg ne).trans h.2.1, h.2.2⟩
theorem x_enum {e : Expr} {x y : Str} {p1 p2 p3 p4 p5 p : Pos} {c i j : Nat} {b : List Stmt} {step : D → Rho → Mu → FQ → Prop} (hF : FmSt F sc) (hk : F.env.kindOf "enumerate" = some .globalImplicit) (hpl : plainB e = true) (hi : F.vars[i]? = some x) (hj : F.vars[j]? = some y) (hx : CanSto F x) (hy : CanSto F y)
    (hstep : ∀ ρ' μ' d K, step d ρ' μ' K → two d fun a a' => WG G F k RF (put (put ρ' i (some a)) j (some a')) μ' (execs b F.env) K X)
    (h : WG G F k RV ρ μ (eval e F.env) (Un ρ fun x μ₁ => asL x fun ds => forC step (pairsD ds) ρ μ₁ Q) X) : WG G F k RF ρ μ (exec (.For (.Tuple [.Name x p1, .Name y p2] c p3) (.Call (.Name "enumerate" p4) [e] [] p5) b [] p) F.env) Q X := fun W A s a r => by
  refine wpAny_For ?_ (fold_plain (show setLike (.Call (.Name "enumerate" p4) [e] [] p5) = false from rfl) F.env)
  refine Call_ (load_bi r (by decide +kernel) (by decide +kernel) enum_boot hk (by decide +kernel) ?_)
  refine Pv.callWith_type1 (args_cons (wp2 (.refl W) h a r (fun v s1 W1 x ρ1 μ1 le1 a1 r1 v1 q1 => ?_) fun zz zz p => p) (star_plain hpl [] F.env)) (star_plain hpl [] F.env) rfl
  refine args_nil ?_
  obtain ⟨rfl, q1⟩ := q1
  obtain ⟨ds, rfl, q1⟩ := asLE q1
  obtain ⟨l, us, nn, rfl, hl, rl⟩ := v1.listE
  refine call_enumerate_1 (r1.wr.φ _ _ hl) fun h' he hit hsz kp => ?_
  refine wpAny_pyIter_enum he ?_
  have r2 := r1.keeps (t := s1.toks) kp
  have oe : Out F W1 (s1.heap.objs.size + 1) := r1.out_new (Heap.get?_none_of_le (Nat.le_succ _))
  have oi : Out F W1 s1.heap.objs.size := r1.out_new (push_new (o := default))
  have hne : s1.heap.objs.size + 1 ≠ s1.heap.objs.size := Nat.succ_ne_self _
  generalize s1.heap.objs.size + 1 = E at he oe hne
  generalize s1.heap.objs.size = I at hit he oi hne
  have hA := a.handled
  refine codeAny_forLoop_any (R := Lp G A F W Q X) (fun n s' => FE G F W step Q ds E I l n s') (fun n s1 hI => ?_) ds.length ⟨0, W1, ρ1, μ1, _, (Nat.zero_add _).symm, le1, r2, he, hit, oe, oi, ⟨us, nn, hl, rl⟩, q1⟩
  cases hI with
  | mk j' W2 ρ2 μ2 old hj' le2 r2 he hit oe oi hlw h2 =>
  obtain ⟨us, nn, hl, rl⟩ := hlw
  have hsz := vsize rl
  have hL := r2.isL hl
  have hle : l ≠ E := fun q => by have := oe.2.1; rw [← q, hl] at this; cases this
  have hli : l ≠ I := fun q => by have := oi.2.1; rw [← q, hl] at this; cases this
  cases n with
  | zero =>
    have ej : j' = ds.length := hj'.symm
    subst ej
    refine wpAny_pyNext_enum_end hA he hit hL (Array.getElem?_eq_none_iff.mpr (by rw [hsz]; exact Nat.le_refl _)) fun h' he' => ?_
    have r3 := r2.touch (h' := h') (t := s1.toks) fun b o q e => he' b o (fun z => q (z ▸ oi)) e
    rw [List.drop_of_length_le (by unfold pairsD; rw [List.length_map, List.length_zipIdx]; exact Nat.le_refl _)] at h2
    exact wpAny_execs_nil ⟨W2, .next, ρ2, μ2, le2, r3, .next, h2⟩
  | succ n =>
    have hjl : j' < ds.length := by rw [hj']; exact Nat.lt_add_of_pos_right (Nat.succ_pos n)
    have hd := List.getElem?_eq_getElem hjl
    rw [pairs_at hd] at h2
    have hju : j' < us.size := by rw [hsz]; exact hjl
    obtain ⟨d, hd', vd⟩ := vsAt rl hju
    rw [hd] at hd'; cases hd'
    refine wpAny_pyNext_enum_item he hit hL (Array.getElem?_eq_getElem hju) hne fun h' ho hit' hT hz kp => ?_
    have hTn : s1.heap.get? s1.heap.objs.size = none := push_new (o := default)
    have oT := r2.out_new hTn
    have r3 := r2.touch (h' := h') (t := s1.toks + 1) fun b o q e => kp b o (fun z => q (z ▸ oe)) (fun z => q (z ▸ oi)) e
    obtain ⟨r4, le4⟩ := r3.freezeOut oT hT
    have neE : E ≠ s1.heap.objs.size := Nat.ne_of_lt (Heap.lt_size he)
    obtain ⟨oit, hoit, _⟩ := id hit
    have neI : I ≠ s1.heap.objs.size := Nat.ne_of_lt (Heap.lt_size hoit)
    have oe4 := oe.other (o := { cls := .type "tuple", data := .seq #[.int j' s1.toks, us[j']] }) neE
    have oi4 := oi.other (o := { cls := .type "tuple", data := .seq #[.int j' s1.toks, us[j']] }) neI
    have hv : V W2.π (W2.φ.set s1.heap.objs.size { cls := .type "tuple", data := .seq #[.int j' s1.toks, us[j']] }) (.ref s1.heap.objs.size) (.tup [.int (j' : Nat), ds[j']]) := .tup (PMap.set_at _ _ _) (Nat.le_of_ble_eq_true rfl) (.cons (.int _ _) (.cons (vd.up le4) .nil))
    obtain ⟨W4, eW⟩ : ∃ W4, { W2 with φ := W2.φ.set s1.heap.objs.size { cls := .type "tuple", data := .seq #[.int j' s1.toks, us[j']] } } = W4 := ⟨_, rfl⟩
    have hv : V W4.π W4.φ (.ref s1.heap.objs.size) (.tup [.int (j' : Nat), ds[j']]) := by rw [← eW]; exact hv
    rw [eW] at r4 le4 oe4 oi4
    refine wpAny_letOwnedTupleGo_enum ho fun h'' he'' hs'' => ?_
    have kE : ∀ b o, b ≠ E → h'.get? b = some o → h''.get? b = some o := fun b o q e => (hs''.2 b q).trans e
    have r5 := r4.touch (h' := h'') (t := s1.toks + 1) fun b o q e => kE b o (fun z => q (z ▸ oe4)) e
    have hit'' : h''.IsListIter I l (j' + 1) := hit'.at fun o e => kE I o (Ne.symm hne) e
    obtain ⟨a1, a2, e2, w2⟩ := twoE (hstep _ _ _ _ h2)
    cases e2
    have le24 := le2.trans le4
    refine wpAny_mono (as_two (p := p3) (n := c) hi hj hx hy (a.up le24) r5 hv) (fun zz s4 h4 => ?_) fun zz zz h => h
    obtain ⟨r6, kp6⟩ := h4
    obtain ⟨oI, hoI, cI⟩ := id hit''
    refine wpAny_mono (hold_run RF.unhold w2 [E, I] (fun z hz => ?_) (a.up le24) r6) (fun f s5 h5 => ?_) fun x s' p => noted_ a hF.fn (p.up le24)
    · rcases List.mem_cons.mp hz with rfl | hz
      · exact ⟨oe4, _, kp6 _ _ oe4 he''⟩
      · rw [List.mem_singleton.mp hz]; exact ⟨oi4, oI, kp6 _ _ oi4 hoI⟩
    cases h5 with
    | mk W5 f' ρ5 μ5 le5 r7 hf q5 hk =>
    obtain ⟨oE5, kE5⟩ := hk E (.head _)
    obtain ⟨oI5, kI5⟩ := hk I (.tail _ (.head _))
    have le := le24.trans le5
    have nx : forC step ((pairsD ds).drop (j' + 1)) ρ5 μ5 Q → ∃ m, m < n + 1 ∧ FE G F W step Q ds E I l m s5 := fun h =>
      ⟨n, Nat.lt_succ_self n, j' + 1, W5, ρ5, μ5, _, by rw [hj', Nat.add_assoc, Nat.add_comm 1 n], le, r7, kE5 _ (kp6 _ _ oe4 he''), ⟨oI, kI5 _ (kp6 _ _ oi4 hoI), cI⟩, oE5, oI5, ⟨us, nn, (le4.trans le5).φ _ _ hl, rl.up (le4.trans le5)⟩, h⟩
    cases hf with
    | next => exact nx q5
    | cont => exact nx q5
    | brk => exact ⟨W5, .next, ρ5, μ5, le, r7, .next, q5⟩
    | ret hv => exact ⟨W5, .ret _, ρ5, μ5, le, r7, .ret hv, q5⟩
end
section
section
variable {prog : Program} {w : World} {A : Around} {E : Value → Shared → Prop} {s : Shared} {a : Addr} {b led : Bool}
noncomputable def bitB (b : Bool) : Nat := if b = true then 1 else 0
theorem hash_bool {Q : Int → Shared → Prop} (h : Q (bitB b : Nat) { s with toks := s.toks + 1 }) : wpAny (model prog w) A (pyHash (.bool b)) Q E s := by
  have hT : s.TypeIs (.bool b) "bool" := rfl
  have hv : [Value.bool b].any Value.onHeap = false := rfl
  refine wpAny_bind ?_
  rw [cRoomFor, if_neg (by rw [hv]; exact Bool.false_ne_true)]; refine wpAny_pure ?_
  refine wpAny_bind (wpAny_specialOf hT PySem.F.slot_bool_hash.lookup ?_)
  refine wpAny_bind (wpAny_specialOf hT PySem.F.slot_bool_hash.lookup ?_)
  refine wpAny_bind (wpAny_callSpecialIfBoundUnlessNone?_slot hT PySem.F.slot_bool_hash
    (wpAny_call_entry PySem.F.slot_bool_hash hT entry_int_hash ?_ (args_int_hash _)))
  cases b
  · show wpAny _ _ (do ret (← mkInt (0 : Int))) _ _ s
    exact wpAny_ret_mkInt (wpAny_pure h)
  · show wpAny _ _ (do ret (← mkInt (1 : Int))) _ _ s
    exact wpAny_ret_mkInt (wpAny_pure h)
noncomputable def tabB (b led : Bool) : SetTable := { mask := 7, place := #[bitB b], dummies := #[], finger := 0, led := led, moves := 0, plain := true }
noncomputable abbrev setO (full b led : Bool) : Obj := { cls := .type "set", dict := none, data := if full = true then .set #[(((bitB b : Nat) : Int), Value.bool b)] 1 (tabB b led) else .set #[] 0 (.fresh 0 0 led) }
theorem lay_b : layNew (.fresh 0 0 led) #[] (bitB b : Nat) (.bool b) = (#[(((bitB b : Nat) : Int), Value.bool b)], tabB b led, false, false) := by
  cases b <;> cases led <;> kernel_rfl
theorem add_b {full : Bool} {Q : Value → Shared → Prop} (ha : s.heap.get? a = some (setO full b led)) (h : ∀ h' t, Heap.SameBut a s.heap h' → h'.get? a = some (setO true b led) → Q .none { s with heap := h', toks := t }) :
    wpAny (model prog w) A (call (.builtin "set.add") [.ref a, .bool b]) Q E s := by
  refine wpAny_call_entry F.slot_set_add ⟨_, ha, rfl⟩ F.entry_set_add ?_ (F.args_set_add_2 _ _)
  unfold Builtin.«set.add» Builtin.Frozenset.oneOther
  simp only [List.isEmpty_nil, bind_assoc]
  refine wpAny_bind (wpAny_pure ?_)
  try dsimp only
  refine wpAny_bind (wpAny_pure ?_)
  try dsimp only
  refine wpAny_bind ?_
  refine wpAny_bind (hash_bool ?_)
  cases full with
  | true =>
    refine wpAny_bind (wpAny_setState_of ha (rfl : (setO true b led).data = .set #[(((bitB b : Nat) : Int), Value.bool b)] 1 (tabB b led)) rfl ?_)
    dsimp only
    rw [if_pos (show byScan (.bool b) #[(((bitB b : Nat) : Int), Value.bool b)] = true by cases b <;> decide +kernel)]
    unfold setAddByScan
    refine wpAny_bind (wpAny_bind (wpAny_rule (wpAny_bind ?_)))
    show wpAny _ _ (setScanFrom a (.bool b) (bitB b : Nat) true [(((bitB b : Nat) : Int), Value.bool b)] 0) _ _ _
    unfold setScanFrom
    rw [if_pos (beq_self_eq_true _)]
    refine wpAny_bind (wpAny_setEpoch_of ha (rfl : (setO true b led).data = .set #[(((bitB b : Nat) : Int), Value.bool b)] 1 (tabB b led)) rfl ?_)
    refine wpAny_bind (wpAny_holding ?_)
    rw [if_pos (beq_self_eq_true _)]
    refine wpAny_bind (wpAny_rule (wpAny_pure ?_))
    exact wpAny_pure (wpAny_pure (wpAny_pure (wpAny_pure ⟨_, rfl, h s.heap _ (Heap.SameBut.refl ..) ha⟩)))
  | false =>
    refine wpAny_bind (wpAny_setState_of ha (rfl : (setO false b led).data = .set #[] 0 (.fresh 0 0 led)) rfl ?_)
    dsimp only
    rw [if_pos (show byScan (.bool b) #[] = true by cases b <;> decide +kernel)]
    unfold setAddByScan
    refine wpAny_bind (wpAny_bind (wpAny_rule (wpAny_bind ?_)))
    refine wpAny_pure ?_
    rw [lay_b]
    refine wpAny_bind (wpAny_pure ?_)
    refine wpAny_bind (wpAny_pure ?_)
    have hd : (setO false b led).data = .set #[] 0 (.fresh 0 0 led) := rfl
    refine wpAny_bind (wpAny_storeSet_of ha hd ?_ (fits_of_scanBound (by cases b <;> decide +kernel)))
    have e := Heap.get?_update_self (Obj.putSet #[(((bitB b : Nat) : Int), Value.bool b)] (tabB b led)) ha (by rw [putSet_of _ _ hd]; rfl)
    rw [putSet_of _ _ hd] at e
    exact wpAny_pure (wpAny_pure (wpAny_pure ⟨_, rfl, h _ _ (Heap.SameBut.update ..) e⟩))
end
end
section
section
variable {prog : Program} {w : World} {A : Around} {E : Value → Shared → Prop} {s : Shared} {a : Addr} {b led : Bool}
theorem set_iter_entry : entryFor table "set.__iter__" = some Builtin.«frozenset.__iter__» :=
  entryFor_alias (id' := "frozenset.__iter__") (by kernel_rfl) rfl (by decide +kernel) (by kernel_rfl)
theorem setit_next : Slot "set_iterator" "__next__" "set_iterator.__next__" :=
  .of (owner := "set_iterator") (n := "__next__") (by rw [typeLookup_type, builtinLookup_eq_fast]; kernel_rfl) (by decide +kernel) (by decide +kernel) (by decide +kernel)
    (by first | exact .inl (by decide +kernel) | exact .inr (by decide +kernel)) (by rw [isSubtype_type]; kernel_rfl)
theorem setit_entry : entryFor table "set_iterator.__next__" = some Builtin.«set_iterator.__next__» := entryFor_of_tree (by kernel_rfl)
theorem setit_args (v : Value) : argsOk "set_iterator.__next__" ⟨[v], []⟩ := by kernel_rfl
noncomputable abbrev sitO (x y : Nat) (a : Addr) : Obj := { cls := .type "set_iterator", data := .fields #[rawInt x, rawInt y, .ref a, rawInt 1, rawInt 1] }
theorem set_data : (setO true b led).data = .set #[(((bitB b : Nat) : Int), Value.bool b)] 1 (tabB b led) := rfl
theorem iter_set {Q : Value → Shared → Prop} (ha : s.heap.get? a = some (setO true b led)) (h : Q (.ref s.heap.objs.size) { s with heap := s.heap.push (sitO 0 0 a) }) : wpAny (model prog w) A (pyIter (.ref a)) Q E s := by
  have hT : s.TypeIs (.ref a) "set" := ⟨_, ha, rfl⟩
  refine wpAny_pyIter_slot hT F.slot_set_iter (wpAny_call_entry F.slot_set_iter hT set_iter_entry ?_ (F.args_set_iter_1 _))
  unfold Builtin.«frozenset.__iter__» Builtin.Frozenset.slot0 slotArgs
  simp only [List.isEmpty_nil, Bool.not_true, Bool.false_eq_true, ↓reduceIte, bind_assoc, List.length_nil, bne_self_eq_false]
  refine wpAny_bind (wpAny_pure ?_)
  refine wpAny_bind (wpAny_pure ?_)
  refine wpAny_bind (wpAny_bind (wpAny_setEntries_of ha set_data rfl (wpAny_pure ?_)))
  refine wpAny_bind (wpAny_bind (wpAny_setState_of ha set_data rfl ?_))
  refine wpAny_bind (wpAny_bind (wpAny_askSetting (wpAny_pure (wpAny_pure ?_))))
  rw [if_neg (by
    show ¬ ((!(w.params.followText "set-order") && _) = true)
    cases w.params.followText "set-order" <;> exact Bool.false_ne_true)]
  refine wpAny_bind (wpAny_pure ?_)
  refine wpAny_bind (wpAny_setEpoch_of ha set_data rfl ?_)
  exact wpAny_bind (wpAny_newObj_type (wpAny_pure ⟨_, rfl, "set_iterator", _, ⟨_, Heap.get?_push_size _ rfl, rfl⟩, setit_next.lookup, h⟩))
theorem walk_set {g x : Nat} {Q : Option (Value × Nat) → Shared → Prop} (ha : s.heap.get? a = some (setO true b (!(w.params.followText "set-order")))) (hg : g = 0 ∧ x = 0 ∨ g = 1 ∧ (w.params.followText "set-order" = false → x = bitB b + 1))
    (h0 : g = 0 → ∀ y, (w.params.followText "set-order" = false → y = bitB b + 1) → Q (some (.bool b, y)) s) (h1 : g = 1 → Q none s) : wpAny (model prog w) A (setNext a x g 1) Q E s := by
  unfold setNext
  refine wpAny_bind (wpAny_setState_of ha set_data rfl ?_)
  refine wpAny_bind (wpAny_bind (wpAny_askSetting (wpAny_pure ?_)))
  show wpAny _ _ (if w.params.followText "set-order" = true then _ else _) _ _ _
  cases e : w.params.followText "set-order" with
  | true =>
    refine wpAny_bind (wpAny_bind (wpAny_setState_of ha set_data rfl ?_))
    refine wpAny_bind (wpAny_bind (wpAny_askSetting (wpAny_pure ?_)))
    show wpAny _ _ (if w.params.followText "set-order" = true then _ else _) _ _ _
    rw [if_pos e]
    refine wpAny_bind (wpAny_askSetting (wpAny_pure ?_))
    have hp : ∀ f : Nat → Nat, pickOrder f #[(((bitB b : Nat) : Int), Value.bool b)] = #[(((bitB b : Nat) : Int), Value.bool b)] := fun f => by
      show pickOrder.go f 1 0 [_] #[] = _
      unfold pickOrder.go
      rw [List.length_singleton, Nat.mod_one]; rfl
    rw [hp]
    rcases hg with ⟨rfl, rfl⟩ | ⟨rfl, _⟩
    · exact wpAny_pure (h0 rfl 0 fun q => nomatch e.symm.trans q)
    · exact wpAny_pure (h1 rfl)
  | false =>
    refine wpAny_bind (bm_if_false (show (!true && _) = false from rfl) (wpAny_pure ?_))
    rcases hg with ⟨rfl, rfl⟩ | ⟨rfl, hx⟩
    · have h := h0 rfl (bitB b + 1) fun zz => rfl
      cases b <;> exact wpAny_pure h
    · have h := h1 rfl
      have hx := hx e
      subst hx
      cases b <;> exact wpAny_pure h
theorem next_set {it : Addr} {Q : Option Value → Shared → Prop} (ha : s.heap.get? a = some (setO true b (!(w.params.followText "set-order")))) (hit : s.heap.get? it = some (sitO 0 0 a))
    (h : ∀ h' x, (w.params.followText "set-order" = false → x = bitB b + 1) → h'.get? it = some (sitO x 1 a) → Heap.SameBut it s.heap h' → Q (some (.bool b)) { s with heap := h' }) : wpAny (model prog w) A (pyNext (.ref it)) Q E s := by
  have hT : s.TypeIs (.ref it) "set_iterator" := ⟨_, hit, rfl⟩
  refine wpAny_bind (wpAny_attempt (wpAny_callSpecial?_slot (name := Str.ofString "__next__") hT setit_next (wpAny_call_entry setit_next hT setit_entry ?_ (setit_args _))))
  refine wpAny_bind (wpAny_pure ?_)
  refine wpAny_bind (wpAny_fieldsOf hit rfl ?_)
  refine wpAny_bind (wpAny_setEntries_of ha set_data rfl ?_)
  refine wpAny_bind (walk_set ha (.inl ⟨rfl, rfl⟩) (fun zz y hy => ?_) (fun q => nomatch q))
  refine wpAny_bind (wpAny_setField hit rfl (by simp) ?_)
  have e1 := Heap.get?_update_self (Obj.mapFields (·.setIfInBounds 0 (rawInt y))) hit rfl
  refine wpAny_bind (wpAny_setField e1 rfl (by simp) ?_)
  have e2 := Heap.get?_update_self (Obj.mapFields (·.setIfInBounds 1 (rawInt 1))) e1 rfl
  exact wpAny_pure ⟨_, rfl, wpAny_pure (h _ y hy e2 ((Heap.SameBut.update ..).trans (Heap.SameBut.update ..)))⟩
theorem last_set {it : Addr} {x : Nat} {Q : Option Value → Shared → Prop} (hh : A.handled = none) (hx : w.params.followText "set-order" = false → x = bitB b + 1) (ha : s.heap.get? a = some (setO true b (!(w.params.followText "set-order")))) (hit : s.heap.get? it = some (sitO x 1 a))
    (h : ∀ h', Heap.ExtBut it s.heap h' → Q none { s with heap := h' }) : wpAny (model prog w) A (pyNext (.ref it)) Q E s := by
  have hT : s.TypeIs (.ref it) "set_iterator" := ⟨_, hit, rfl⟩
  refine wpAny_bind (wpAny_attempt (wpAny_callSpecial?_slot (name := Str.ofString "__next__") hT setit_next (wpAny_call_entry setit_next hT setit_entry ?_ (setit_args _))))
  refine wpAny_bind (wpAny_pure ?_)
  refine wpAny_bind (wpAny_fieldsOf hit rfl ?_)
  refine wpAny_bind (wpAny_setEntries_of ha set_data rfl ?_)
  refine wpAny_bind (walk_set ha (.inr ⟨rfl, hx⟩) (fun q => nomatch q) fun zz => ?_)
  refine wpAny_bind (wpAny_setField hit rfl (by simp) ?_)
  show wpAny _ _ (newExc (.type "StopIteration") [] >>= _) _ _ _
  refine wpAny_bind ?_
  refine wpAny_bind (wpAny_newObj_type ?_ (by size_fits))
  refine wpAny_bind (m := firstArgMember _ _) (wpAny_of_eq (a := Value.none) (by first | rfl | (simp only [firstArgMember]; rfl)) ?_)
  refine wpAny_newObj_type ?_ (by size_fits)
  refine wpAny_bind (wpAny_handled ?_)
  first | rw [show A.in1.handled = none from hh] | rw [hh]
  refine wpAny_bind (wpAny_pure (wpAny_throw ?_))
  refine wpAny_bind (wpAny_isInstance (T := "StopIteration") (b := true) ⟨_, Heap.get?_push_size _ rfl, rfl⟩ isSubtype_stop ?_)
  exact wpAny_pure (h _ (((Heap.SameBut.update ..).extBut.push _).push _))
end
end
section
section
variable {prog : Program} {w : World} {A : Around} {E : Value → Shared → Prop} {s : Shared} {a : Addr} {b led : Bool}
theorem unpack_set {Q : List Value → Shared → Prop} (hh : A.handled = none) (ha : s.heap.get? a = some (setO true b (!(w.params.followText "set-order"))))
    (h : ∀ h', (∀ c o, s.heap.get? c = some o → h'.get? c = some o) → Q [.bool b] { s with heap := h' }) : wpAny (model prog w) A (unpackItems (.ref a) 1 none) Q E s := by
  have hT : s.TypeIs (.ref a) "set" := ⟨_, ha, rfl⟩
  have ne : ∀ c o, s.heap.get? c = some o → c ≠ s.heap.objs.size := fun c o e => Nat.ne_of_lt (Heap.lt_size e)
  unfold unpackItems
  refine wpAny_bind ?_
  unfold notIterableAtAll
  refine wpAny_bind (wpAny_specialOf hT F.slot_set_iter.lookup ?_)
  refine wpAny_pure ?_
  refine bm_if_false rfl ?_
  refine wpAny_bind (wpAny_holding (iter_set ha ?_))
  have hit : (s.heap.push (sitO 0 0 a)).get? s.heap.objs.size = some (sitO 0 0 a) := Heap.get?_push_size _ rfl
  refine wpAny_bind (wpAny_holding ?_)
  show wpAny _ _ (pyNext (.ref s.heap.objs.size) >>= _) _ _ _
  refine wpAny_bind (next_set (s := { s with heap := s.heap.push (sitO 0 0 a) }) (Heap.get?_push_of_some _ ha) hit fun h1 x hx hit1 sb => ?_)
  have k1 : ∀ c o, s.heap.get? c = some o → h1.get? c = some o := fun c o e => (sb.2 c (ne c o e)).trans (Heap.get?_push_of_some _ e)
  refine wpAny_bind (wpAny_holding (wpAny_pure (wpAny_pure ?_)))
  rw [if_neg (show ¬ ([Value.bool b].length < 1) from Nat.lt_irrefl 1)]
  refine wpAny_bind (wpAny_holding (last_set (s := { s with heap := h1 }) hh hx (k1 _ _ ha) hit1 fun h2 k2 => ?_))
  exact wpAny_pure (h h2 fun c o e => k2 c o (ne c o e) (k1 c o e))
theorem compTurn_set (elt target iter : Expr) (scope : Scope) (pos : Pos) (it acc : Value) (env : Env) :
    compTurn (.SetComp elt [⟨target, iter, [], 0⟩] scope pos) 0 it acc env = (standAt iter.pos >>= fun zz => pyNext it >>= fun r => match r with
      | none => pure (.done .next)
      | some v => letOwnedTupleGo target it v >>= fun zz => assign target env v >>= fun zz =>
        (eval elt env >>= fun x => standAt elt.pos >>= fun zz => call (.builtin "set.add") [acc, x] >>= fun zz => pure ()) >>= fun zz =>
          again (.compLoop (.SetComp elt [⟨target, iter, [], 0⟩] scope pos) 0 it acc env)) := by rfl
theorem start_set {R : Result → Shared → Prop} {elt target iter : Expr} {scope : Scope} {pos : Pos} {it acc : Value} {env : Env}
    (h0 : codeAny (model prog w) A (.compLoop (.SetComp elt [⟨target, iter, [], 0⟩] scope pos) 0 it acc env) R s)
    (h : wpAny (model prog w) A (pyIter it) (fun it' s' => codeAny (model prog w) A (.compLoop (.SetComp elt [⟨target, iter, [], 0⟩] scope pos) 0 it' acc env) R s') (notedBy (model prog w) A env fun x s' => R (.error x) s') s) :
    codeAny (model prog w) A (.compStart (.SetComp elt [⟨target, iter, [], 0⟩] scope pos) 0 it acc env) R s := by
  refine codeAny_of_tree ?_
  show wpAny _ A ((compStart (.SetComp elt [⟨target, iter, [], 0⟩] scope pos) 0 it acc env).onRaise (fun x => do noteFrame x env; standAt theWindowsPlace)) _ _ s
  refine wpAny_notedAt ?_
  unfold compStart
  show wpAny _ A (ask >>= _) _ _ s
  refine wpAny_bind (wpAny_askSetting (wpAny_ite ?_))
  split
  · first
      | exact wpAny_bind (wpAny_pure (wpAny_pure (And.intro rfl h0)))
      | exact wpAny_pure (And.intro rfl h0)
  · first
      | exact wpAny_bind (wpAny_rule (wpAny_bind (wpAny_standAt (wpAny_bind (wpAny_mono h (fun it' s' h' => wpAny_pure (And.intro rfl h')) fun zz zz x => x)))))
      | (refine wpAny_bind (wpAny_rule ?_); show wpAny _ _ (standAt iter.pos >>= _) _ _ s; exact wpAny_bind (wpAny_standAt (wpAny_bind (wpAny_mono h (fun it' s' h' => wpAny_pure (And.intro rfl h')) fun zz zz x => x))))
end
section
variable {G : GG} {F : Fm} {k : Nat} {ρ : Rho} {μ : Mu} {W : Wd} {s : Shared} {A : Around}
noncomputable abbrev LedG (G : GG) : Bool := !(G.w.params.followText "set-order")
inductive SL (G : GG) (F : Fm) (W : Wd) (ds : List D) (I D₀ : Addr) (fp : List Addr) (P : Nat → Value → Prop) (St : Nat → Heap → Prop) (ρ₀ : Rho) (t : Nat) (μ : Mu) (b : Bool) (n : Nat) (s' : Shared) : Prop
  | mk (j : Nat) (W' : Wd) (ρ' : Rho) (hj : ds.length = j + n) (le : W.le W') (r : Rel G F W' ρ' μ s') (hput : ∀ d, put ρ' t (some d) = put ρ₀ t (some d)) (g : Going G F W' s'.heap ds I fp P St j) (oD : Out F W' D₀) (hD : s'.heap.get? D₀ = some (setO (decide (0 < j)) b (LedG G)))
theorem set_loop {elt iter : Expr} {x : Str} {px pos : Pos} {scope : Scope} {ds : List D} {I D₀ : Addr} {fp : List Addr} {P : Nat → Value → Prop} {St : Nat → Heap → Prop} {t : Nat} {R : Result → Shared → Prop} {ρ₀ : Rho} {b : Bool}
    (hx : F.vars[t]? = some x) (hkx : F.env.kindOf x = some .local) (hstep : ∀ d ∈ ds, WG G F k RV (put ρ₀ t (some d)) μ (eval elt F.env) (Un (put ρ₀ t (some d)) fun y μ₂ => y = .bool b ∧ μ₂ = μ) fun zz zz zz => False)
    (hz : ds ≠ []) (a : AOk F W k A) (r : Rel G F W ρ₀ μ s) (g : Going G F W s.heap ds I fp P St 0) (hD : Out F W D₀) (hDo : s.heap.get? D₀ = some (setO false b (LedG G))) (hne : D₀ ≠ I)
    (hR : ∀ W' ρ' s', W.le W' → Rel G F W' ρ' μ s' → Out F W' D₀ → s'.heap.get? D₀ = some (setO true b (LedG G)) → R (.ok .next) s') :
    codeAny G.M A (.compLoop (.SetComp elt [⟨.Name x px, iter, [], 0⟩] scope pos) 0 (.ref I) (.ref D₀) F.env) R s := by
  have hA := a.handled
  refine codeAny_loop rfl (SL G F W ds I D₀ fp P St ρ₀ t μ b) (fun n s1 hI => ?_) ds.length ⟨0, W, ρ₀, (Nat.zero_add _).symm, .refl W, r, fun zz => rfl, g, hD, hDo⟩
  show wpAny _ A ((compTurn (.SetComp elt [⟨.Name x px, iter, [], 0⟩] scope pos) 0 (.ref I) (.ref D₀) F.env).onRaise (fun x => do noteFrame x F.env; theTreesLotGoes x)) _ _ s1
  refine wpAny_noted ?_
  rw [compTurn_set]
  refine wpAny_bind (wpAny_standAt (wpAny_bind ?_))
  cases hI with
  | mk j W' ρ' hj le r' hput g' oD hD =>
  cases n with
  | zero =>
    have ej : j = ds.length := hj.symm
    subst ej
    refine wpAny_mono (g'.done r' hA) (fun q s2 zz1 => zz1.elim fun hq zz2 => zz2.elim fun r1 kp => ?_) fun zz zz h => h
    subst hq
    have hD := kp _ _ hne hD
    rw [decide_eq_true (List.length_pos_iff.mpr hz)] at hD
    exact wpAny_pure (hR _ _ _ le r1 oD hD)
  | succ n =>
    have hjl : j < ds.length := by rw [hj]; exact Nat.lt_add_of_pos_right (Nat.succ_pos n)
    refine wpAny_mono (g'.item r' hA (List.getElem?_eq_getElem hjl)) (fun q s2 ⟨v, hq, hv, r1, g1, kp⟩ => ?_) fun zz zz h => h
    subst hq
    have hD1 := kp _ _ hne hD
    refine wpAny_bind (wpAny_of_eq (show letOwnedTupleGo (.Name x px) (.ref I) v = pure () from rfl) ?_)
    refine wpAny_bind (wpAny_mono (assign_name r1 hx hv (.inl hkx)) (fun zz s3 zz8 => zz8.elim fun r2 kp2 => ?_) fun zz zz h => h)
    rw [hput] at r2
    have φk : ∀ {Wa Wb : Wd} {sa sb : Shared} {ρa ρb : Rho} {μa μb : Mu}, Wa.le Wb → Rel G F Wa ρa μa sa → Rel G F Wb ρb μb sb → ∀ b o, Wa.φ b = some o → sa.heap.get? b = some o ∧ sb.heap.get? b = some o := fun le ra rb b o e => ⟨ra.wr.φ b o e, rb.wr.φ b o (le.φ b o e)⟩
    have g2 := g1.move hA (.refl W') g1.out (fun o e => kp2 _ _ g1.out e) (φk (.refl W') r1 r2)
    have hD2 := kp2 _ _ oD hD1
    obtain ⟨oI, eI, _⟩ := g2.ex _ _ g2.st
    refine wpAny_bind (wpAny_bind (wpAny_mono (hold_run RV.unhold (hstep _ (List.getElem_mem hjl)) [I, D₀] (fun c hc => ?_) (a.up le) r2) (fun u s4 h4 => ?_) fun e s' p => by cases p with | mk _ _ _ _ _ _ _ _ _ hf => exact hf.elim))
    · rcases List.mem_cons.mp hc with rfl | hc
      · exact ⟨g2.out, _, eI⟩
      · rw [List.mem_singleton.mp hc]; exact ⟨oD, _, hD2⟩
    cases h4 with
    | mk W4 y ρ4 μ4 le4 r4 hu q4 h4 =>
    obtain ⟨eρ, rfl, rfl⟩ := q4
    subst eρ
    cases hu
    obtain ⟨hI4, kI4⟩ := h4 I (.head _)
    obtain ⟨hD4, kD4⟩ := h4 D₀ (.tail _ (.head _))
    have g4 := g2.move hA le4 hI4 kI4 (φk le4 r2 r4)
    refine wpAny_bind (wpAny_standAt (wpAny_bind (add_b (kD4 _ hD2) fun h5 t5 sb e5 => ?_)))
    have kp5 : ∀ c o, c ≠ D₀ → s4.heap.get? c = some o → h5.get? c = some o := fun c o q e => (sb.2 c q).trans e
    have r5 : Rel G F W4 _ _ { s4 with heap := h5, toks := t5 } := r4.touch (h' := h5) (t := t5) fun c o q e => kp5 c o (fun z => q (z ▸ hD4)) e
    refine wpAny_pure (wpAny_pure ⟨rfl, n, Nat.lt_succ_self n, j + 1, W4, _, by rw [hj, Nat.add_assoc, Nat.add_comm 1 n], le.trans le4, r5, fun d => put_put 0 _ _ _ _, g4.move hA (.refl W4) hI4 (fun o e => kp5 _ _ (Ne.symm hne) e) (φk (.refl W4) r4 r5), hD4, ?_⟩)
    rw [decide_eq_true (Nat.succ_pos j)]; exact e5
end
end
section
theorem new_set {prog : Program} {w : World} {A : Around} {E : Value → Shared → Prop} {s : Shared} {b : Bool} {Q : Value → Shared → Prop} (h : Q (.ref s.heap.objs.size) { s with heap := s.heap.push (setO false b (!(w.params.followText "set-order"))) }) :
    wpAny (model prog w) A (newSet (.type "set")) Q E s := by
  refine wpAny_bind (wpAny_bind (wpAny_askSetting (wpAny_pure ?_)))
  exact wpAny_newObj_type h
variable {G : GG} {F : Fm} {k : Nat} {ρ : Rho} {μ : Mu} {W : Wd} {s : Shared} {A : Around} {Q : FQ} {X : MX} {sc : Sc}
inductive SetQ (G : GG) (F : Fm) (W : Wd) (ρ : Rho) (Q : FQ) (i : Nat) (v : Value) (s' : Shared) : Prop
  | mk (W' : Wd) (μ' : Mu) (b : Bool) (a : Addr) (hv : v = .ref a) (le : W.le W') (r : Rel G F W' ρ μ' s') (ha : s'.heap.get? a = some (setO true b (LedG G))) (q : Q .next (put ρ i (some (.bool b))) μ')
theorem set_comp {elt it : Expr} {inner : Scope} {x : Str} {i t : Nat} {p3 p4 : Pos} {QD : D → Mu → (D → Mu → Prop) → Prop} (hF : FmSc F sc) (hs : ∀ v, foldedSetIterable it F.env v = pure v) (c : CompSc sc inner.names x) (hk : inner.kind = .function) (ht : place x (varsOf inner.names) = some t)
    (hstep : ∀ F' : Fm, FmSc F' inner.names → ∀ d μ' K, QD d μ' K → WG G F' k RV (put (capRho ρ (capOf sc inner.names)) t (some d)) μ' (eval elt F'.env) (Un (put (capRho ρ (capOf sc inner.names)) t (some d)) K) fun zz zz zz => False)
    (h : WG G F k RV ρ μ (eval it F.env) (Un ρ fun x μ₁ => asT x fun ds => ∃ b : Bool, (ds ≠ [] ∧ ds.length ≤ 2) ∧ (∀ d ∈ ds, QD d μ₁ fun y μ₂ => y = .bool b ∧ μ₂ = μ₁) ∧ Q .next (put ρ i (some (.bool b))) μ₁) X)
    (a : AOk F W k A) (r : Rel G F W ρ μ s) : wpAny G.M A (eval (.SetComp elt [⟨.Name x p3, it, [], 0⟩] inner p4) F.env) (SetQ G F W ρ Q i) (PX G F W X) s := by
  have hfree : ∀ y ∈ inner.names, y.2 = .free → ∃ c, F.env.cells.lookup y.1 = some c := fun y hy e => by
    obtain ⟨e2, ⟨j, hj⟩, e3⟩ := c.free y hy e
    obtain ⟨mm, _, hv⟩ := r.loc
    rcases hv j y.1 (by rw [hF.vars]; exact place_get hj) with ⟨q, _⟩ | ⟨_, a', o, q1, _⟩
    · rcases hF.cf _ e3 with q' | q' <;> (rw [q'] at q; cases q)
    · exact ⟨a', q1⟩
  obtain ⟨cl, hclos, hcl, hcl2⟩ := closure_is inner F.env hfree
  have hsrc : SrcW G F k it ρ μ (fun ds ρ₁ μ₁ => ρ₁ = ρ ∧ ∃ b : Bool, (ds ≠ [] ∧ ds.length ≤ 2) ∧ (∀ d ∈ ds, QD d μ₁ fun y μ₂ => y = .bool b ∧ μ₂ = μ₁) ∧ Q .next (put ρ i (some (.bool b))) μ₁) X := src_plainU (seqU h fun x μ₁ q => by
    obtain ⟨ds, rfl, q⟩ := asTE q
    exact ⟨rfl, q⟩)
  rw [arm_eval_SetComp]
  refine wpAny_comprehension_free (use := none) (g := ⟨.Name x p3, it, [], 0⟩) (gs := []) rfl hs hclos hk c.loc (wpAny_mono (hsrc W A s a r) (fun v s1 h1 => wpAny_mono h1 (fun itv s2 ⟨W1, ρ1, μ1, ds, le1, r1, src, eρ, b, hz, hq, hQ⟩ => ?_) fun zz zz p => p) fun zz zz p => p)
  subst eρ
  obtain ⟨I, fp, P, St, rfl, g⟩ := src
  refine new_set (b := b) ?_
  generalize hO : setO false b (!(G.w.params.followText "set-order")) = O
  have kD : ∀ c o, s2.heap.get? c = some o → (s2.heap.push O).get? c = some o := fun b o e => Heap.get?_push_of_some _ e
  have r3 := r1.keeps (t := s2.toks) kD
  have hDn : s2.heap.get? s2.heap.objs.size = none := push_new (o := default)
  have hDo : (s2.heap.push O).get? s2.heap.objs.size = some O := Heap.get?_push_size _ (by rw [← hO]; rfl)
  have oD := r1.out_new hDn
  obtain ⟨oI, eI, _⟩ := g.ex _ _ g.st
  have hDI : s2.heap.objs.size ≠ I := fun e => by rw [← e, hDn] at eI; exact nosome eI
  refine wpAny_newFunctionEnv c.nocell (fun y hy => nomatch hy) (fun h' hn sb => ?_) hk
  generalize hC : (s2.heap.push O).objs.size = C at hn sb ⊢
  have hCn : (s2.heap.push O).get? C = none := by rw [← hC]; exact push_new (o := default)
  have kC : ∀ b o, (s2.heap.push O).get? b = some o → h'.get? b = some o := fun b o e => by
    have hb : b ≠ C := fun q => by rw [q, hCn] at e; exact nosome e
    rw [sb.2 b hb]; exact Heap.get?_push_of_some _ e
  have rin := comp_rel (t := s2.toks + ([] : List (Str × Value)).length) r3 hF c hk hcl hcl2 hCn hn kC
  have ain := comp_aok (scope := inner) (cl := cl) (C := C) (r3.keeps (t := s2.toks) kC) (a.up le1)
  have hIC : I ≠ C := fun q => by have := kD _ _ eI; rw [q, hCn] at this; exact nosome this
  have hDC : s2.heap.objs.size ≠ C := fun q => by rw [q, hCn] at hDo; exact nosome hDo
  have gin : Going G (compFm F inner cl C) (Mine.inner F W1 h') h' ds I fp P St 0 := ⟨g.walks, (g.walks A a.handled).frame _ _ _ g.st fun b zz o e => kC _ _ (kD _ _ e), g.ex, out_comp g.out hIC, g.fix, g.val⟩
  have hvx : (compFm F inner cl C).vars[t]? = some x := place_get ht
  have hDo := kC _ _ hDo
  rw [← hO] at hDo
  have loop := set_loop (F := compFm F inner cl C) (elt := elt) (iter := it) (px := p3) (pos := p4) (scope := inner) (b := b) (R := compPost G.M A (PX G F W X) none (SetQ G F W ρ1 Q i) (.ref s2.heap.objs.size) C) hvx (by rw [comp_kind, c.tgt]; rfl)
    (fun d hd => hstep _ comp_sc d μ1 _ (hq d hd)) hz.1 ain rin gin (out_comp oD hDC) hDo hDI fun W' ρ' s' le' r' oD' hDo' => by
      obtain ⟨mm, hNs, _⟩ := r'.loc
      have oC : OutW W' C := r'.priv _ (List.mem_cons_self ..)
      obtain ⟨r4, le4⟩ := Rel.leave (r3.keeps (t := s2.toks) kC) le' r'.wr
      have oC4 := Rel.out (r3.keeps (t := s2.toks) kC) le' oC
      exact ⟨mm, hNs, fun h'' sb' => .mk _ μ1 b _ rfl (le1.trans le4) (r4.touch (t := s'.toks) fun b o q e => (sb'.2 b fun z => q (z ▸ oC4)).trans e) ((sb'.2 _ hDC).trans hDo') hQ⟩
  exact start_set loop ((g.walks A a.handled).self 0 _ _ _ gin.st loop)
theorem x_one {elt it : Expr} {inner : Scope} {x y : Str} {i t c : Nat} {p1 p2 p3 p4 p5 : Pos} {QD : D → Mu → (D → Mu → Prop) → Prop} (hF : FmSt F sc) (hi : F.vars[i]? = some y) (hy : CanSto F y) (hs : ∀ v, foldedSetIterable it F.env v = pure v) (hc : CompSc sc inner.names x) (hk : inner.kind = .function) (ht : place x (varsOf inner.names) = some t)
    (hstep : ∀ F' : Fm, FmSc F' inner.names → ∀ d μ' K, QD d μ' K → WG G F' k RV (put (capRho ρ (capOf sc inner.names)) t (some d)) μ' (eval elt F'.env) (Un (put (capRho ρ (capOf sc inner.names)) t (some d)) K) fun zz zz zz => False)
    (h : WG G F k RV ρ μ (eval it F.env) (Un ρ fun x μ₁ => asT x fun ds => ∃ b : Bool, (ds ≠ [] ∧ ds.length ≤ 2) ∧ (∀ d ∈ ds, QD d μ₁ fun y μ₂ => y = .bool b ∧ μ₂ = μ₁) ∧ Q .next (put ρ i (some (.bool b))) μ₁) X) :
    WG G F k RF ρ μ (exec (.Assign [.Tuple [.Name y p1] c p2] (.SetComp elt [⟨.Name x p3, it, [], 0⟩] inner p4) p5) F.env) Q X := fun W A s a r => by
  refine wpAny_Assign_stores (wpAny_mono (set_comp hF.msc hs hc hk ht hstep h a r) (fun v s1 h1 => ?_) fun zz zz p => p) rfl rfl
  cases h1 with
  | mk W' μ' b a' hv le r1 ha q =>
  subst hv
  show wpAny _ A (assign (.Tuple [.Name y p1] c p2) F.env (.ref a')) _ _ _
  rw [arm_assign_Tuple]
  refine wpAny_bind (wpAny_standAt ?_)
  refine wpAny_bind (wpAny_holding (unpack_set a.handled ha fun h' kp => ?_))
  show wpAny _ A (do holding [] (assign (.Name y p1) F.env (.bool b)); pure ()) _ _ _
  exact wpAny_bind (wpAny_holding (wpAny_mono (assign_name (r1.keeps (t := s1.toks) kp) hi (.bool b) hy) (fun zz s2 h2 => wpAny_pure (.mk W' .next _ _ le h2.1 .next q)) fun zz zz h => h))
end
section
section
variable {prog : Program} {w : World} {A : Around} {E : Value → Shared → Prop} {s : Shared}
theorem map_mro : mroOf (.type "map") = pure [.type "map", .type "object"] := by rw [mroOf_type]; kernel_rfl
theorem map_sub : isSubtype (.type "map") (.type "map") = pure true := by rw [isSubtype_type]; kernel_rfl
theorem map_init : Slot "map" "__init__" "object.__init__" :=
  .of (owner := "object") (n := "__init__") (by rw [typeLookup_type, builtinLookup_eq_fast]; kernel_rfl) (by decide +kernel) (by decide +kernel) (by decide +kernel)
    (by first | exact .inl (by decide +kernel) | exact .inr (by decide +kernel)) (by rw [isSubtype_type]; kernel_rfl)
theorem map_next : Slot "map" "__next__" "map.__next__" :=
  .of (owner := "map") (n := "__next__") (by rw [typeLookup_type, builtinLookup_eq_fast]; kernel_rfl) (by decide +kernel) (by decide +kernel) (by decide +kernel)
    (by first | exact .inl (by decide +kernel) | exact .inr (by decide +kernel)) map_sub
theorem map_iter : Slot "map" "__iter__" "map.__iter__" :=
  .of (owner := "map") (n := "__iter__") (by rw [typeLookup_type, builtinLookup_eq_fast]; kernel_rfl) (by decide +kernel) (by decide +kernel) (by decide +kernel)
    (by first | exact .inl (by decide +kernel) | exact .inr (by decide +kernel)) map_sub
theorem map_called : TypeCalled "map" "map.__new__" "object.__init__" :=
  ⟨by decide +kernel, by decide +kernel, ⟨_, _, map_mro⟩, madeBy_type map_mro (by rw [typeLookup_type, builtinLookup_eq_fast]; kernel_rfl) (by decide +kernel), by decide +kernel, map_sub, map_init⟩
theorem map_next_entry : entryFor table "map.__next__" = some Builtin.«map.__next__» := entryFor_of_tree (by kernel_rfl)
theorem map_iter_entry : entryFor table "map.__iter__" = some Builtin.«dict_keyiterator.__iter__» :=
  entryFor_alias (id' := "dict_keyiterator.__iter__") (by kernel_rfl) rfl (by decide +kernel) (by kernel_rfl)
theorem map_next_args (v : Value) : argsOk "map.__next__" ⟨[v], []⟩ := by kernel_rfl
theorem map_iter_args (v : Value) : argsOk "map.__iter__" ⟨[v], []⟩ := by kernel_rfl
noncomputable abbrev mapO (T : Addr) (f : Value) : Obj := { cls := .type "map", data := .fields #[.ref T, f] }
noncomputable abbrev itO (l : Addr) : Obj := { cls := .type "list_iterator", data := .fields #[.ref l, .int 0 0] }
noncomputable abbrev mapH (h : Heap) (l : Addr) (f : Value) : Heap := ((h.push (itO l)).push (tupO #[.ref h.objs.size] 0)).push (mapO (h.objs.size + 1) f)
theorem map_code {l : Addr} {us : Array Value} {f : Value} {Q : Value → Shared → Prop} (hl : s.heap.IsList l us) (h : Q (.ref (s.heap.objs.size + 2)) { s with heap := mapH s.heap l f }) :
    codeAny (model prog w) A (.call (.builtin "map.__new__") ⟨[.type "map", f, .ref l], []⟩) (wants Q E) s := by
  have hp : plainId "map.__new__" = true := by decide +kernel
  have he : entryFor table "map.__new__" = some Builtin.«map.__new__» := entryFor_of_tree (by kernel_rfl)
  have hc : checkBuiltinCall "map.__new__" ⟨[.type "map", f, .ref l], []⟩ = pure () := by kernel_rfl
  refine codeAny_of_tree ?_
  refine wpAny_bind (wpAny_of_eq hc (wpAny_pure ⟨plainId_quiet hp _, codeAny_builtin he ?_⟩))
  rw [Around.under_plainId hp _]
  unfold Builtin.«map.__new__»
  have hcl : Builtin.SmallTypes.newClass "map" ⟨[.type "map", f, .ref l], []⟩ = pure (.type "map", [f, .ref l]) := by
    unfold Builtin.SmallTypes.newClass
    simp only [isType, map_sub, pure_bind, Bool.not_true, Bool.false_eq_true, if_false]
  refine wpAny_bind (wpAny_of_eq hcl ?_)
  refine wpAny_bind (wpAny_of_eq (a := ()) rfl ?_)
  refine wpAny_bind ?_
  refine wpAny_bind (wpAny_bind (wpAny_bind (wpAny_holding (wpAny_pyIter_list hl (wpAny_pure (wpAny_pure (wpAny_pure ?_)))))))
  refine wpAny_bind (wpAny_newTuple ?_ (fits_of_scanBound (show 1 < scanBound by decide)))
  show wpAny _ _ (newObj (.type "map") (.fields #[.ref (s.heap.push (itO l)).objs.size, f]) >>= _) _ _ _
  refine wpAny_bind (wpAny_newObj_type ?_ (Nat.le_add_left 2 sizeLine))
  have e2 : ((s.heap.push (itO l)).push (tupO #[.ref s.heap.objs.size] 0)).objs.size = s.heap.objs.size + 2 := by rw [Heap.size_push, Heap.size_push]
  have e1 : (s.heap.push (itO l)).objs.size = s.heap.objs.size + 1 := Heap.size_push _ _
  rw [← e2] at h
  unfold mapH at h
  rw [← e1] at h
  exact wpAny_pure h
theorem call_map {l : Addr} {us : Array Value} {f : Value} {Q : Value → Shared → Prop} (hl : s.heap.IsList l us) (h : Q (.ref (s.heap.objs.size + 2)) { s with heap := mapH s.heap l f }) :
    wpAny (model prog w) A (call (.type "map") [f, .ref l]) Q E s := by
  have hc : checkTypeCall "map" ⟨[f, .ref l], []⟩ = pure () := by kernel_rfl
  have e2 : ((s.heap.push (itO l)).push (tupO #[.ref s.heap.objs.size] 0)).objs.size = s.heap.objs.size + 2 := by rw [Heap.size_push, Heap.size_push]
  refine callType_codes (Q₁ := fun obj s₁ => s₁.TypeIs obj "map" ∧ Q obj s₁) map_called hc PySem.F.entry_object_init
    (map_code hl ⟨⟨_, e2 ▸ Heap.get?_push_size _ rfl, rfl⟩, h⟩) fun obj s₁ h₁ => ?_
  exact ⟨h₁.1, PySem.F.args_object_init_3 obj _ _, object_init_meets map_called.init.lookup map_called.made (by decide) _ _ A.in1 _ s₁ ⟨h₁.1, rfl, h₁.2⟩⟩
end
end
section
section
variable {prog : Program} {w : World} {A : Around} {E : Value → Shared → Prop} {s : Shared}
theorem iter_map {M T : Addr} {f : Value} {Q : Value → Shared → Prop} (hM : s.heap.get? M = some (mapO T f)) (h : Q (.ref M) s) : wpAny (model prog w) A (pyIter (.ref M)) Q E s := by
  have hT : s.TypeIs (.ref M) "map" := ⟨_, hM, rfl⟩
  refine wpAny_pyIter_slot hT map_iter (wpAny_call_entry map_iter hT map_iter_entry ?_ (map_iter_args _))
  exact wpAny_pure ⟨_, rfl, "map", _, hT, map_next.lookup, h⟩
theorem ask_item {it l : Addr} {i : Nat} {items : Array Value} {x : Value} {Q : Option Value → Shared → Prop} (hit : s.heap.IsListIter it l i) (hl : s.heap.IsList l items) (hx : items[i]? = some x)
    (hQ : ∀ h', h'.IsListIter it l (i + 1) → Heap.SameBut it s.heap h' → Q (some x) { s with heap := h' }) : wpAny (model prog w) A (callSpecial? (.ref it) "__next__") Q E s := by
  obtain ⟨o, ho, hc, hd⟩ := id hit
  obtain ⟨ol, hol, _, nl, hdl⟩ := hl
  refine wpAny_callSpecial?_slot (name := Str.ofString "__next__") hit.typeIs slot_listiter_next (wpAny_call_entry slot_listiter_next hit.typeIs entry_listiter_next ?_ (args_listiter_next _))
  show wpAny _ _ (field (.ref it) 0 >>= _) _ _ s
  refine wpAny_bind (wpAny_field ho hd (x := .ref l) rfl ?_)
  refine bm_if_false (c := Value.ref l == Value.none) rfl ?_
  refine wpAny_bind (wpAny_field ho hd (x := .int i 0) rfl ?_)
  refine wpAny_bind (wpAny_seqItems hol hdl ?_)
  simp only [Int.toNat_natCast, hx]
  refine wpAny_bind (wpAny_setField ho hd (by simp) (wpAny_pure ⟨x, rfl, hQ _ ?_ (Heap.SameBut.update ..)⟩))
  exact ⟨_, Heap.get?_update_self _ ho (Obj.isFreed_of_fields (Obj.data_mapFields hd _)), (Obj.cls_mapFields ..).trans hc, by
    rw [Obj.data_mapFields hd]; simp [rawInt]⟩
theorem ask_end {it l : Addr} {i : Nat} {items : Array Value} {Q : Option Value → Shared → Prop} (hh : A.handled = none) (hit : s.heap.IsListIter it l i) (hl : s.heap.IsList l items) (hx : items[i]? = none)
    (hE : ∀ h' a o, Heap.ExtBut it s.heap h' → h'.get? a = some o → o.cls = .type "StopIteration" → E (.ref a) { s with heap := h' }) : wpAny (model prog w) A (callSpecial? (.ref it) "__next__") Q E s := by
  obtain ⟨o, ho, hc, hd⟩ := id hit
  obtain ⟨ol, hol, _, nl, hdl⟩ := hl
  refine wpAny_callSpecial?_slot (name := Str.ofString "__next__") hit.typeIs slot_listiter_next (wpAny_call_entry slot_listiter_next hit.typeIs entry_listiter_next ?_ (args_listiter_next _))
  show wpAny _ _ (field (.ref it) 0 >>= _) _ _ s
  refine wpAny_bind (wpAny_field ho hd (x := .ref l) rfl ?_)
  refine bm_if_false (c := Value.ref l == Value.none) rfl ?_
  refine wpAny_bind (wpAny_field ho hd (x := .int i 0) rfl ?_)
  refine wpAny_bind (wpAny_seqItems hol hdl ?_)
  simp only [Int.toNat_natCast, hx]
  refine wpAny_bind (wpAny_rule (wpAny_bind (wpAny_setField ho hd (by simp) ?_)))
  refine wpAny_bind ?_
  refine wpAny_bind (wpAny_newObj_type ?_ (by size_fits))
  refine wpAny_bind (m := firstArgMember _ _) (wpAny_of_eq (a := Value.none) (by first | rfl | (simp only [firstArgMember]; rfl)) ?_)
  refine wpAny_newObj_type ?_ (by size_fits)
  refine wpAny_bind (wpAny_handled ?_)
  rw [show A.in1.handled = none from hh]
  exact wpAny_bind (wpAny_pure (wpAny_throw (hE _ _ _ (((Heap.SameBut.update ..).extBut.push _).push _) (Heap.get?_push_size _ rfl) rfl)))
theorem next_map {M T I : Addr} {n : Nat} {f : Value} {Q : Option Value → Shared → Prop} (hM : s.heap.get? M = some (mapO T f)) (hT : s.heap.get? T = some (tupO #[.ref I] n))
    (h : wpAny (model prog w) A.in1 (callSpecial? (.ref I) "__next__") (fun r s' => match r with | some x => s'.heap.get? M = some (mapO T f) ∧ wpAny (model prog w) A.in1 (call f [x]) (fun y => Q (some y)) (fun zz zz => False) s' | none => False) (fun e s' => s'.TypeIs e "StopIteration" ∧ Q none s') s) :
    wpAny (model prog w) A (pyNext (.ref M)) Q E s := by
  have hTy : s.TypeIs (.ref M) "map" := ⟨_, hM, rfl⟩
  refine wpAny_bind (wpAny_attempt (wpAny_callSpecial?_slot (name := Str.ofString "__next__") hTy map_next (wpAny_call_entry map_next hTy map_next_entry ?_ (map_next_args _))))
  refine wpAny_bind (wpAny_pure ?_)
  refine wpAny_bind (wpAny_field hM rfl (x := .ref T) rfl ?_)
  refine wpAny_bind (wpAny_seqItems hT rfl ?_)
  show wpAny _ _ ((forIn [Value.ref I].toArray (#[] : Array Value) fun it r => do let y ← holding r.toList (Builtin.SmallTypes.nextOf it); pure (ForInStep.yield (r.push y))) >>= _) _ _ _
  rw [List.forIn_toArray, List.forIn_cons]
  refine wpAny_bind (wpAny_bind (wpAny_bind (wpAny_holding ?_)))
  refine wpAny_bind (wpAny_mono h (fun r s1 h1 => ?_) fun e s1 h1 => ?_)
  · cases r with
    | none => exact h1.elim
    | some x =>
      obtain ⟨hM1, h1⟩ := h1
      refine wpAny_pure (wpAny_pure ?_)
      show wpAny _ _ (forIn ([] : List Value) ((#[] : Array Value).push x) _) _ _ _
      rw [List.forIn_nil]
      refine wpAny_pure ?_
      refine wpAny_bind (wpAny_field hM1 rfl (x := f) rfl ?_)
      refine wpAny_bind (wpAny_holding (wpAny_mono h1 (fun y s2 h2 => ?_) fun zz zz h => h.elim))
      exact wpAny_bind (wpAny_letGo (wpAny_pure ⟨_, rfl, wpAny_pure h2⟩))
  · exact wpAny_bind (wpAny_isInstance (T := "StopIteration") (b := true) h1.1 isSubtype_stop (wpAny_pure h1.2))
end
end
section
variable {G : GG} {F : Fm} {k : Nat} {ρ : Rho} {μ : Mu} {W : Wd} {s : Shared} {A A₀ : Around}
structure Near (A₀ A : Around) : Prop where
  h : A.handled = A₀.handled
  d : A.depth = A₀.depth
  f : A.frames = A₀.frames
  u : A.units ≤ A₀.units + 8
theorem ca_near (r : Rel G F W ρ μ s) (a : AOk F W (k + 1) A₀) (n : Near A₀ A) : CA (inner F W s.heap) k A := by
  have c := r.enterB a
  refine ⟨n.h.trans c.handled, by rw [n.d]; exact Nat.le_trans (Nat.le_succ _) c.depth, ?_, by rw [n.f]; exact c.frames⟩
  have h1 := n.u
  have h2 := c.units
  exact ar263 h1 h2
theorem call_near {f : Fn} {ds : List D} {vs : List Value} {QM : D → Mu → Prop} {XM : List Nat → Mu → Prop} (r : Rel G F W ρ μ s) (a : AOk F W k A₀) (n : Near A₀ A) (hv : Vs W.π W.φ vs ds) (h : callC G k f ds μ QM XM) :
    wpAny G.M A (call (.ref (G.fa f)) vs) (PQ G F W RV (Un ρ QM)) (PX G F W (Un ρ XM)) s := by
  cases k with
  | zero => exact h.elim
  | succ k => exact call_any r (h _ _ _ _ (ca_near r a n) r.enter hv)
inductive MapAt (F : Fm) (W : Wd) (h : Heap) (S M T I l : Addr) (f : Value) (us : Array Value) (j : Nat) (acc : Array Value) : Prop
  | mk (n c nn : Nat) (hS : h.get? S = some (seqL acc c)) (hM : h.get? M = some (mapO T f)) (hT : h.get? T = some (tupO #[.ref I] n)) (hI : h.IsListIter I l j) (oS : Out F W S) (oM : Out F W M) (oT : Out F W T) (oI : Out F W I) (hl : W.φ l = some (listO us nn))
structure Apart4 (S M T I : Addr) : Prop where
  sm : S ≠ M
  st : S ≠ T
  si : S ≠ I
  mi : M ≠ I
  ti : T ≠ I
noncomputable abbrev tmStep (G : GG) (k : Nat) (f : Fn) : D → Mu → (D → Mu → Prop) → Prop := fun d μ₂ K => callC G k f [d] μ₂ K fun zz zz => False
inductive TmQ (G : GG) (F : Fm) (W : Wd) (ρ : Rho) (Qf : List D → Mu → Prop) (S : Addr) (s' : Shared) : Prop
  | mk (W' : Wd) (μ' : Mu) (acc : Array Value) (c : Nat) (as : List D) (le : W.le W') (r : Rel G F W' ρ μ' s') (hS : s'.heap.get? S = some (seqL acc c)) (hv : Vs W'.π W'.φ acc.toList as) (hz : acc.size ≤ 1000) (q : Qf as μ')
theorem tm_loop {f : Fn} {Qf : List D → Mu → Prop} {S M T I l : Addr} {us : Array Value} {R : Result → Shared → Prop} {W₀ : Wd} (ap : Apart4 S M T I) (hz : us.size ≤ 1000) (nr : Near A₀ A.in1.in1) (hR : ∀ s', TmQ G F W₀ ρ Qf S s' → R (.ok (.ret (.ref S))) s') :
    ∀ (ds : List D) (j : Nat) (acc : Array Value) (as₀ : List D) (W : Wd) (μ : Mu) (s : Shared), W₀.le W → AOk F W k A₀ → Rel G F W ρ μ s → MapAt F W s.heap S M T I l (.ref (G.fa f)) us j acc → Vs W.π W.φ (us.toList.drop j) ds → Vs W.π W.φ acc.toList as₀ → acc.size = j → j ≤ us.size →
      seqC (tmStep G k f) ds μ (fun as μ₂ => Qf (as₀ ++ as) μ₂) → codeAny G.M A (.builtin "list.extend.loop" ⟨[.ref S, .ref M, .ref S], []⟩) R s
  | [], j, acc, as₀, W, μ, s, le, a, r, m, hd, ha, hj, hjl, hq => by
    cases m with
    | mk n c nn hS hM hT hI oS oM oT oI hl =>
    have hA : A.in1.in1.handled = none := nr.h.trans a.handled
    have hx : us[j]? = none := by
      have := hd.length
      rw [List.length_drop, Array.length_toList] at this
      exact Array.getElem?_eq_none_iff.mpr (Nat.le_of_sub_eq_zero this)
    refine codeAny_builtin PySem.F.entry_extend_loop ?_
    rw [Around.under_plainId PySem.F.plain_extend_loop _]
    show wpAny _ A.in1 (pyNext (.ref M) >>= _) _ _ s
    refine wpAny_bind (next_map hM hT (ask_end hA hI (r.isL hl) hx fun h' e o ext e1 e2 => ⟨⟨o, e1, e2⟩, ?_⟩))
    have kp : ∀ b o, b ≠ I → s.heap.get? b = some o → h'.get? b = some o := ext
    have hq : Qf (as₀ ++ []) μ := hq
    rw [List.append_nil] at hq
    exact wpAny_pure (hR _ (.mk W μ acc c as₀ le (r.touch (t := s.toks) fun b o q e => kp b o (fun z => q (z ▸ oI)) e) (kp _ _ ap.si hS) ha (by rw [hj]; exact Nat.le_trans hjl hz) hq))
  | d :: ds, j, acc, as₀, W, μ, s, le, a, r, m, hd, ha, hj, hjl, hq => by
    cases m with
    | mk n c nn hS hM hT hI oS oM oT oI hl =>
    have hlt : j < us.size := by
      have := hd.length
      rw [List.length_drop, Array.length_toList] at this
      exact Nat.lt_of_sub_pos (by rw [this]; exact Nat.succ_pos _)
    have hdj : us.toList.drop j = us[j] :: us.toList.drop (j + 1) := List.drop_eq_getElem_cons (by rw [Array.length_toList]; exact hlt)
    rw [hdj] at hd
    cases hd with
    | cons hx hd =>
    refine codeAny_builtin PySem.F.entry_extend_loop ?_
    rw [Around.under_plainId PySem.F.plain_extend_loop _]
    show wpAny _ A.in1 (pyNext (.ref M) >>= _) _ _ s
    refine wpAny_bind (next_map hM hT (ask_item hI (r.isL hl) (Array.getElem?_eq_getElem hlt) fun h1 hI1 sb => ?_))
    have kp : ∀ b o, b ≠ I → s.heap.get? b = some o → h1.get? b = some o := fun b o q e => (sb.2 b q).trans e
    have r1 := r.touch (h' := h1) (t := s.toks) fun b o q e => kp b o (fun z => q (z ▸ oI)) e
    have hM1 := kp _ _ ap.mi hM
    have hS1 := kp _ _ ap.si hS
    have hT1 := kp _ _ ap.ti hT
    obtain ⟨oi, eI, cI⟩ := id hI1
    refine ⟨hM1, ?_⟩
    refine wpAny_mono (hold_back (s := { s with heap := h1 }) RV.unhold [S, M, T, I] (fun b hb => ?_) r1 fun r2 => call_near r2 (a.ofFs rfl rfl fun b hb => ?_) nr (.cons hx .nil) hq) (fun y s3 h3 => ?_) fun e s3 p => by cases p with | mk _ _ _ _ _ _ _ _ _ q => exact q.2.elim
    · rcases List.mem_cons.mp hb with rfl | hb
      · exact ⟨oS, _, hS1⟩
      rcases List.mem_cons.mp hb with rfl | hb
      · exact ⟨oM, _, hM1⟩
      rcases List.mem_cons.mp hb with rfl | hb
      · exact ⟨oT, _, hT1⟩
      · rw [List.mem_singleton.mp hb]; exact ⟨oI, _, eI⟩
    · refine hold_none ?_
      cases q : heldAt h1 [S, M, T, I] b with
      | none => rfl
      | some o =>
        have hm := (heldAt_mem q).1
        rcases List.mem_cons.mp hm with rfl | hm
        · exact absurd oS.2.2.1 hb
        rcases List.mem_cons.mp hm with rfl | hm
        · exact absurd oM.2.2.1 hb
        rcases List.mem_cons.mp hm with rfl | hm
        · exact absurd oT.2.2.1 hb
        · rw [List.mem_singleton.mp hm] at hb; exact absurd oI.2.2.1 hb
    cases h3 with
    | mk W3 d3 ρ3 μ3 le3 r3 hv3 q3 hk =>
    obtain ⟨e3, q3⟩ := q3
    rw [e3] at r3
    obtain ⟨oS3, kS⟩ := hk S (.head _)
    obtain ⟨oM3, kM⟩ := hk M (.tail _ (.head _))
    obtain ⟨oT3, kT⟩ := hk T (.tail _ (.tail _ (.head _)))
    obtain ⟨oI3, kI⟩ := hk I (.tail _ (.tail _ (.tail _ (.head _))))
    have hS3 := kS _ hS1
    show wpAny _ A.in1 (updateSeq S (·.push y) >>= _) _ _ _
    refine wpAny_bind (wpAny_updateSeq hS3 rfl (wpAny_pure ⟨plainId_quiet PySem.F.plain_extend_loop _, ?_⟩) ?_ ?_)
    · have ks : ∀ b o, b ≠ S → s3.heap.get? b = some o → (s3.heap.update S (Obj.mapSeq (·.push y))).get? b = some o := fun b o q e => (Heap.get?_update_other _ _ (Ne.symm q)).trans e
      refine tm_loop ap hz nr hR ds (j + 1) (acc.push y) (as₀ ++ [d3]) W3 μ3 _ (le.trans le3) (a.up le3) (r3.touch (t := s3.toks) fun b o q e => ks b o (fun z => q (z ▸ oS3)) e)
        (.mk n _ nn (Heap.get?_update_self _ hS3 rfl) (ks _ _ (Ne.symm ap.sm) (kM _ hM1)) (ks _ _ (Ne.symm ap.st) (kT _ hT1)) ⟨oi, ks _ _ (Ne.symm ap.si) (kI _ eI), cI⟩ oS3 oM3 oT3 oI3 (le3.φ _ _ hl)) (hd.up le3) ?_ (by rw [Array.size_push, hj]) hlt ?_
      · rw [Array.toList_push]; exact (ha.up le3).append (.cons hv3 .nil)
      · simpa [List.append_assoc] using q3
    · rw [hj]; exact sizeLine_ge (Nat.le_trans (Nat.le_trans hjl hz) (by decide))
    · show (acc.push y).size ≤ sizeLine + 1
      rw [Array.size_push, hj]
      exact Nat.succ_le_succ (sizeLine_ge (Nat.le_trans (Nat.le_trans hjl hz) (by decide)))
end
section
variable {G : GG} {F : Fm} {k : Nat} {ρ : Rho} {μ : Mu} {W : Wd} {s : Shared} {A A₀ : Around}
theorem map_no_len : typeLookup (.type "map") "__len__" = pure none := by rw [typeLookup_type, builtinLookup_eq_fast]; kernel_rfl
theorem map_no_hint : typeLookup (.type "map") "__length_hint__" = pure none := by rw [typeLookup_type, builtinLookup_eq_fast]; kernel_rfl
structure NewMap (F : Fm) (W : Wd) (h : Heap) (M T I l : Addr) (f : Value) : Prop where
  hM : h.get? M = some (mapO T f)
  hT : h.get? T = some (tupO #[.ref I] 0)
  hI : h.IsListIter I l 0
  oM : Out F W M
  oT : Out F W T
  oI : Out F W I
  mi : M ≠ I
  ti : T ≠ I
theorem collect_map {f : Fn} {ds : List D} {Qf : List D → Mu → Prop} {M T I l : Addr} {us : Array Value} {nn : Nat} {P : List Value → Shared → Prop} {E : Value → Shared → Prop} (a : AOk F W k A₀) (nr : Near A₀ A.in1.in1) (r : Rel G F W ρ μ s) (m : NewMap F W s.heap M T I l (.ref (G.fa f))) (hl : W.φ l = some (listO us nn))
    (hd : Vs W.π W.φ us.toList ds) (hz : us.size ≤ 1000) (hq : seqC (tmStep G k f) ds μ Qf) (h : ∀ W' μ' (acc : Array Value) as s', W.le W' → Rel G F W' ρ μ' s' → Vs W'.π W'.φ acc.toList as → acc.size ≤ 1000 → Qf as μ' → P acc.toList s') : wpAny G.M A (collect (.ref M)) P E s := by
  have hS : (s.heap.push (seqL #[] 0)).get? s.heap.objs.size = some (seqL #[] 0) := Heap.get?_push_size _ rfl
  have kp : ∀ b o, s.heap.get? b = some o → (s.heap.push (seqL #[] 0)).get? b = some o := fun b o e => Heap.get?_push_of_some _ e
  have oS : Out F W s.heap.objs.size := r.out_new (push_new (o := default))
  have neS : ∀ b o, s.heap.get? b = some o → s.heap.objs.size ≠ b := fun b o e => Nat.ne_of_gt (Heap.lt_size e)
  obtain ⟨oi, eI, cI⟩ := id m.hI
  have hT1 : Shared.TypeIs { s with heap := s.heap.push (seqL #[] 0) } (.ref M) "map" := ⟨_, kp _ _ m.hM, rfl⟩
  refine wpAny_bind (wpAny_runValue (codeAny_builtin PySem.F.entry_proto_collect ?_))
  rw [Around.under_plainId PySem.F.plain_proto_collect _]
  show wpAny _ A.in1 (newList [] >>= fun l => again (.builtin "list.__iadd__" ⟨[l, .ref M], []⟩)) _ _ s
  refine wpAny_bind (wpAny_newObj_type ?_)
  refine wpAny_pure ⟨plainId_quiet PySem.F.plain_list_iadd _, codeAny_builtin PySem.F.entry_list_iadd ?_⟩
  rw [Around.under_plainId PySem.F.plain_list_iadd _]
  show wpAny _ A.in1 (Builtin.List.listExtendWith (.ref s.heap.objs.size) (.ref M) (.ref s.heap.objs.size)) _ _ { s with heap := s.heap.push (seqL #[] 0) }
  generalize s.heap.objs.size = S at hS oS neS ⊢
  have hSM := neS M _ m.hM
  refine wpAny_bind (wpAny_typeOf hT1 ?_)
  have h1 : Builtin.List.listSameRef (.ref S) (.ref M) = false := by simp [Builtin.List.listSameRef, hSM]
  have h2 : (Value.type "map" == Value.type "list") = false := by decide
  have h3 : (Value.type "map" == Value.type "tuple") = false := by decide
  simp only [h1, h2, h3, Bool.or_false, Bool.false_eq_true, if_false]
  refine wpAny_bind (iter_map (kp _ _ m.hM) ?_)
  refine wpAny_bind (wpAny_holding ?_)
  refine wpAny_bind (wpAny_specialOf hT1 map_no_len ?_)
  refine wpAny_bind (wpAny_specialOf hT1 map_no_hint ?_)
  refine wpAny_pure ?_
  refine wpAny_bind (wpAny_rule ?_)
  refine wpAny_bind ?_
  refine wpAny_bind (wpAny_updateSeq hS rfl ?_)
  have hS₂ := Heap.get?_update_self (Obj.mapSeq (·.push Value.none)) hS rfl
  refine wpAny_updateSeq hS₂ rfl ?_
  have hS₃ := Heap.get?_update_self (Obj.mapSeq (·.pop)) hS₂ rfl
  have ks : ∀ b o, b ≠ S → s.heap.get? b = some o → (((s.heap.push (seqL #[] 0)).update S (Obj.mapSeq (·.push Value.none))).update S (Obj.mapSeq (·.pop))).get? b = some o :=
    fun b o q e => (Heap.get?_update_other _ _ (Ne.symm q)).trans ((Heap.get?_update_other _ _ (Ne.symm q)).trans (kp b o e))
  have kk : ∀ b o, s.heap.get? b = some o → (((s.heap.push (seqL #[] 0)).update S (Obj.mapSeq (·.push Value.none))).update S (Obj.mapSeq (·.pop))).get? b = some o := fun b o e => ks b o (Ne.symm (neS b o e)) e
  refine wpAny_pure ⟨plainId_quiet PySem.F.plain_extend_loop _, tm_loop (W₀ := W) (Qf := Qf) (I := I) (T := T) (l := l) (us := us) ⟨hSM, neS T _ m.hT, neS I _ eI, m.mi, m.ti⟩ hz nr (fun s' q => ?_) ds 0 _ [] W μ _ (.refl W) a (r.keeps (t := s.toks) kk)
    (.mk 0 _ nn hS₃ (kk _ _ m.hM) (kk _ _ m.hT) ⟨oi, kk _ _ eI, cI⟩ oS m.oM m.oT m.oI hl) hd .nil rfl (Nat.zero_le _) hq⟩
  cases q with
  | mk W' μ' acc c as le r' hS' hv hz' q =>
  exact wpAny_bind (wpAny_load hS' (wpAny_pure (h W' μ' acc as s' le r' hv hz' q)))
theorem tuple_code {M : Addr} {T : Addr} {f : Value} {Q : Value → Shared → Prop} {E : Value → Shared → Prop} (hM : s.heap.get? M = some (mapO T f)) (h : wpAny G.M A.in1 (collect (.ref M)) (fun xs s' => xs.length ≤ 1000 ∧ Q (.ref s'.heap.objs.size) { s' with heap := s'.heap.push (tupO xs.toArray 0) }) E s) :
    codeAny G.M A (.call (.builtin "tuple.__new__") ⟨[.type "tuple", .ref M], []⟩) (wants Q E) s := by
  have hp : plainId "tuple.__new__" = true := by decide +kernel
  have hT : s.TypeIs (.ref M) "map" := ⟨_, hM, rfl⟩
  refine codeAny_of_tree ?_
  refine wpAny_bind (wpAny_of_eq (PySem.F.newCall_tuple_1 _) (wpAny_pure ⟨plainId_quiet hp _, codeAny_builtin PySem.F.entry_tuple_new ?_⟩))
  rw [Around.under_plainId hp _]
  unfold Builtin.«tuple.__new__»
  refine wpAny_bind (wpAny_of_eq (a := true) rfl (bm_if_false rfl ?_))
  refine wpAny_bind (wpAny_of_eq sub_tuple_self (bm_if_false rfl ?_))
  refine wpAny_bind (wpAny_of_eq madeHere_tuple ?_)
  refine wpAny_bind (wpAny_of_eq init_tuple_lookup ?_)
  refine wpAny_bind (wpAny_of_eq (a := ()) rfl ?_)
  refine wpAny_bind (wpAny_of_eq (a := ()) rfl ?_)
  refine wpAny_bind (wpAny_bind (wpAny_typeOf hT (wpAny_pure ?_)))
  refine wpAny_bind (wpAny_mono h (fun xs s1 h1 => ?_) fun zz zz h => h)
  refine wpAny_bind (wpAny_pure ?_)
  refine wpAny_bind (wpAny_newObj_type ?_ (show xs.toArray.size ≤ sizeLine from sizeLine_ge (Nat.le_trans h1.1 (by decide))))
  exact wpAny_pure h1.2
theorem call_tup {M T : Addr} {f : Value} {Q : Value → Shared → Prop} {E : Value → Shared → Prop} (hM : s.heap.get? M = some (mapO T f)) (h : wpAny G.M A.in1.in1 (collect (.ref M)) (fun xs s' => xs.length ≤ 1000 ∧ Q (.ref s'.heap.objs.size) { s' with heap := s'.heap.push (tupO xs.toArray 0) }) E s) :
    wpAny G.M A (call (.type "tuple") [.ref M]) Q E s := by
  refine callType_codes (Q₁ := fun obj s₁ => s₁.TypeIs obj "tuple" ∧ Q obj s₁) PySem.F.called_tuple (PySem.F.typeCall_tuple_1 _) PySem.F.entry_object_init
    (tuple_code hM (wpAny_mono h (fun xs s1 h1 => ⟨h1.1, ⟨_, Heap.get?_push_size _ rfl, rfl⟩, h1.2⟩) fun zz zz h => h)) fun obj s₁ h₁ => ?_
  exact ⟨h₁.1, PySem.F.args_object_init_2 obj _, object_init_meets PySem.F.called_tuple.init.lookup PySem.F.called_tuple.made (by decide) _ _ A.in1 _ s₁ ⟨h₁.1, rfl, h₁.2⟩⟩
theorem tuple_boot : bootBuiltins "tuple" = some (.type "tuple") := by kernel_rfl
theorem map_boot : bootBuiltins "map" = some (.type "map") := by kernel_rfl
theorem near3 : Near A A.in1.in1.in1.in1 := ⟨rfl, rfl, rfl, Nat.add_le_add_left (by decide : 4 ≤ 8) A.units⟩
theorem r_tmap {f : Str} {g : Fn} {e : Expr} {p1 p2 p3 p4 p5 : Pos} {Q : D → Mu → Prop} {X : List Nat → Mu → Prop} (hf : fnNames.lookup f = some g) (hd : (f == ("__debug__" : Str)) = false) (hk : F.env.kindOf f = some .globalImplicit) (hkm : F.env.kindOf "map" = some .globalImplicit) (hkt : F.env.kindOf "tuple" = some .globalImplicit) (hpl : plainB e = true)
    (h : WG G F k RV ρ μ (eval e F.env) (Un ρ fun x μ₁ => asL x fun ds => ds.length ≤ 1000 ∧ seqC (tmStep G k g) ds μ₁ fun as μ₂ => Q (.tup as) μ₂) (Un ρ X)) :
    WG G F k RV ρ μ (eval (.Call (.Name "tuple" p1) [.Call (.Name "map" p2) [.Name f p3, e] [] p4] [] p5) F.env) (Un ρ Q) (Un ρ X) := fun W A s a r => by
  have hplm : plainB (.Call (.Name "map" p2) [.Name f p3, e] [] p4) = true := rfl
  refine Call_ (load_bi r (by decide +kernel) (by decide +kernel) tuple_boot hkt (by decide +kernel) ?_)
  refine Pv.callWith_type1 (args_cons ?_ (star_plain hplm [] F.env)) (star_plain hplm [] F.env) rfl
  refine Call_ (load_bi r (by decide +kernel) (by decide +kernel) map_boot hkm (by decide +kernel) ?_)
  refine Pv.callWith_type1 (args_cons (load_fn r (lookup_mem hf) hk hd ?_) (star_plain (show plainB (.Name f p3) = true from rfl) [e] F.env)) (star_plain (show plainB (.Name f p3) = true from rfl) [e] F.env) (back_plain _ _ (show [e].all plainB = true by rw [List.all_cons, hpl]; rfl)).1
  refine args_cons (wp2 (.refl W) h a r (fun v s1 W1 x ρ1 μ1 le1 a1 r1 v1 q1 => ?_) fun zz zz p => p) (star_plain hpl [] F.env)
  refine args_nil ?_
  obtain ⟨rfl, q1⟩ := q1
  obtain ⟨ds, rfl, hz, q⟩ := asLE q1
  obtain ⟨l, us, nn, rfl, hl, rl⟩ := v1.listE
  refine call_map (r1.isL hl) (args_nil ?_)
  have e1 : (s1.heap.push (itO l)).objs.size = s1.heap.objs.size + 1 := Heap.size_push _ _
  have e2 : ((s1.heap.push (itO l)).push (tupO #[.ref s1.heap.objs.size] 0)).objs.size = s1.heap.objs.size + 2 := by rw [Heap.size_push, e1]
  have kp : ∀ b o, s1.heap.get? b = some o → (mapH s1.heap l (.ref (G.fa g))).get? b = some o := fun b o e => Heap.get?_push_of_some _ (Heap.get?_push_of_some _ (Heap.get?_push_of_some _ e))
  have out : ∀ b, s1.heap.objs.size ≤ b → Out F W1 b := fun b hb => r1.out_new (Heap.get?_none_of_le hb)
  have m : NewMap F W1 (mapH s1.heap l (.ref (G.fa g))) (s1.heap.objs.size + 2) (s1.heap.objs.size + 1) s1.heap.objs.size l (.ref (G.fa g)) :=
    ⟨e2 ▸ Heap.get?_push_size _ rfl, Heap.get?_push_of_some _ (e1 ▸ Heap.get?_push_size _ rfl), ⟨_, Heap.get?_push_of_some _ (Heap.get?_push_of_some _ (Heap.get?_push_size _ rfl)), rfl, rfl⟩, out _ (Nat.le_add_right _ 2), out _ (Nat.le_add_right _ 1), out _ (Nat.le_refl _),
      Nat.ne_of_gt (Nat.lt_add_of_pos_right (by decide)), Nat.ne_of_gt (Nat.lt_succ_self _)⟩
  refine call_tup m.hM (collect_map a1 near3 (r1.keeps (t := s1.toks) kp) m hl rl (by rw [vsize rl]; exact hz) q fun W' μ' acc as s' le' r' hv hz' q' => ⟨by rw [Array.length_toList]; exact hz', ?_⟩)
  refine PQ.up (le1.trans le') (PQ.new r' rfl s'.toks (fun W'' le'' e => .tup e ?_ ?_) ⟨rfl, q'⟩)
  · rw [List.size_toArray, Array.length_toList]; exact Nat.le_trans hz' (by decide)
  · show Vs _ _ acc.toList.toArray.toList as
    rw [List.toList_toArray]; exact hv.up le''
theorem tup_ok {rec : Sc → Nat → Expr → PE} (H : ∀ sc m e, SndE G k (rec sc m e) e sc) {sc : Sc} {es : List Expr} {Q : D → Mu → Prop} {X : List Nat → Mu → Prop} {p p' : Pos} (hF : FmSc F sc) (ht : globalIn sc "tuple" = true) (h : vcE G k (mapPE rec sc es) ρ μ Q X) :
    WG G F k RV ρ μ (eval (.Call (.Name "tuple" p') es [] p) F.env) (Un ρ Q) (Un ρ X) := by
  cases es with
  | nil => exact h.elim
  | cons a t => cases t with
    | cons _ _ => exact h.elim
    | nil => cases a with
      | Call mp as kw pc =>
        obtain ⟨h1, ha⟩ := whenE h
        clear h
        have := List.isEmpty_iff.mp h1
        subst this
        revert ha
        cases hm : asName mp with
        | none => cases as with
          | nil => exact fun h => h.elim
          | cons f t => cases t with
            | nil => exact fun h => h.elim
            | cons e t => cases t <;> exact fun h => h.elim
        | some x => cases as with
          | nil => exact fun h => h.elim
          | cons f t => cases t with
            | nil => exact fun h => h.elim
            | cons e t => cases t with
              | cons _ _ => exact fun h => h.elim
              | nil =>
                show vcE G k (match asName f with | some f => when (globalIn sc f && (place f (varsOf sc)).isNone) (map2 rec sc x (fnNames.lookup f) e) | none => .bad) ρ μ Q X → _
                cases hf : asName f with
                | none => exact fun h => h.elim
                | some fn =>
                  intro h
                  obtain ⟨h2, h⟩ := whenE h
                  rw [Bool.and_eq_true] at h2
                  revert h
                  cases hg : fnNames.lookup fn with
                  | none => exact fun h => h.elim
                  | some g =>
                    intro hb
                    obtain ⟨h3, hc⟩ := whenE hb
                    clear hb
                    rw [Bool.and_eq_true, Bool.and_eq_true, Bool.and_eq_true] at h3
                    obtain ⟨⟨⟨h4, h5⟩, _⟩, h6⟩ := h3
                    obtain ⟨pm, rfl⟩ := asNameE hm
                    obtain ⟨pf, rfl⟩ := asNameE hf
                    have := eq_of_beq h4
                    subst this
                    exact r_tmap hg (fnNames_ok _ (lookup_mem hg)) (hF.glob _ h2.1) (hF.glob _ h5) (hF.glob _ ht) h6 (H sc 0 e F ρ μ _ X hF hc)
      | _ => exact h.elim
end
theorem odd (G : GG) (k : Nat) : Odd G k where
  one := fun hF hi hy hs hc hk ht hstep h => x_one hF hi hy hs hc hk ht hstep h
  rev := fun _ hk hk2 hpl h => src_rev hk hk2 hpl h
  enum := fun hF hk hpl hi hj hx hy hstep h => x_enum hF hk hpl hi hj hx hy hstep h
theorem oddE (G : GG) (k : Nat) : OddE G k := by
  induction k using Nat.strongRecOn with
  | ind k ih => exact ⟨rdOk fun j hj => ⟨ih j (Nat.lt_of_lt_of_le (Nat.lt_add_of_pos_right (by decide)) hj), odd G j⟩, fun rec H F sc es ρ μ Q X p p' hF ht h => tup_ok H hF ht h⟩
theorem oks (G : GG) : Oks G := fun k => ⟨oddE G k, odd G k⟩
theorem c_law {G : GG} {s : List Int} (hs : s.length ≤ 1000) : callC G 14 .law [.list (intsD s)] [] (fun d zz => d = .bool true) (fun zz zz => False) :=
  go (oks G _).1 (oks G _).2 "law" [(315, 1)] [] ["script"] [some (.list (intsD s)), none, none, none, none, none, none, none] (by kernel_rfl) (by kernel_rfl) (by kernel_rfl) rfl
    (bind_pure fun pm code doc vs hl => by obtain ⟨v, rfl⟩ := len1 hl; kernel_rfl) rfl (by kernel_rfl) (v_law (k := 0) (oks G) hs fun zz zz => rfl)
noncomputable def fnName : Fn → Str
  | .fspath => "fspath" | .sep => "_get_sep" | .join => "join" | .basename => "basename" | .dirname => "dirname" | .common => "commonpath" | .pop => "heappop" | .replace => "heapreplace" | .heapify => "heapify"
  | .down => "_siftdown" | .up => "_siftup" | .uint1 => "read_uint1" | .string1 => "read_string1" | .stream => "_law_stream" | .rows => "_law_rows" | .same => "_law_same" | .union => "_law_union" | .written => "_law_written"
  | .told => "_law_told" | .record => "_law_record" | .head => "_law_head" | .merged => "_law_merged" | .paths => "_law_paths" | .law => "law"
theorem fnName_of (p : Str × Fn) (hp : p ∈ fnNames) : fnName p.2 = p.1 :=
  eq_of_beq (List.all_eq_true.mp (show (fnNames.all fun p => fnName p.2 == p.1) = true by decide +kernel) p hp)
structure HeadOk (q : Program) : Prop where
  recs : ∀ p ∈ fnNames, ∃ d ∈ recsOf q, d.name = p.1 ∧ PySem.Challenge.pw_ik0060_01.theDef p.1 = some (d.params, d.body, d.scope)
  free : ∀ x ∈ freeNames, x ∉ startupNames ∧ x ∉ looseW q [] ∧ x ∉ (recsOf q).map (·.name) ∧ x ∉ (litsOf q).map (·.1) ∧ x ∉ (clssOf q (looseW q [])).map (·.name)
noncomputable def addrIn (mg : Str → Option Value) (f : Fn) : Addr := match mg (fnName f) with
  | some (.ref a) => a
  | _ => 0
theorem addrIn_of {mg : Str → Option Value} {n : Str} {f : Fn} {a : Addr} (hp : (n, f) ∈ fnNames) (h : mg n = some (.ref a)) : addrIn mg f = a := by
  unfold addrIn
  rw [show fnName f = n from fnName_of _ hp, h]
noncomputable def mkG (w : World) (h : Heap) (mg mb : Str → Option Value) (C P : Addr) : GG := { w := w, H := h.hide P, mg := mg, mb := mb, fa := addrIn mg, C := C, P := P }
theorem Heap.Ns.hid {h : Heap} {P a : Addr} {m : Str → Option Value} (hP : h.get? P = some (tabO #[])) (x : h.Ns a m) : (h.hide P).Ns a m :=
  let ⟨o, es, ep, e, d, z⟩ := x
  ⟨o, es, ep, (Heap.hide_ne h fun q => by rw [q, hP] at e; cases e; cases d).trans e, d, z⟩
theorem gok {q : Program} {loose : List Str} {mean : ExcName → Option Value} {w : World} {h : Heap} {mg mb : Str → Option Value} (T : Top q (looseW q []) mean mg mb h) (hq : HeadOk q) :
    ∃ C P, GOk (mkG w h mg mb C P) ∧ h.get? P = some (tabO #[]) ∧ isCodeTable h P := by
  obtain ⟨ds, hds, en, _⟩ := hq.recs ("_law_stream", .stream) (lookup_mem (by kernel_rfl))
  obtain ⟨a, o, fd, C, P, em, eo, ed, ec, ic, ta⟩ := T.tab ds hds
  rw [en] at em
  have hP := ta.2
  have ne : ∀ {b : Addr} {o : Obj}, h.get? b = some o → o.data ≠ .fields #[] → (h.hide P).get? b = some o := fun e d => (Heap.hide_ne h fun q => by rw [q, hP] at e; cases e; exact d rfl).trans e
  have fa : ∀ {n : Str} {f : Fn} {a : Addr}, (n, f) ∈ fnNames → mg n = some (.ref a) → addrIn mg f = a := addrIn_of
  refine ⟨C, P, ⟨Heap.hide_self h P, fun h' ps k hp tr => ?_, ?_, fun o' fd' e1 e2 => ?_, Heap.Ns.hid hP T.g, Heap.Ns.hid hP T.b, ?_, T.builtins, fun x hx => ?_, fun n f hn => ?_⟩, hP, ta.isCodeTable⟩
  · obtain ⟨oc, vs, file, tf, flags, tg, inF, text, tt, op, e1, r1, r2, r3, r4, r5, r6, _, _, _, hne⟩ := ic
    obtain ⟨⟨o2, vs2, e2, z⟩, _⟩ := ta
    exact ⟨⟨oc, vs, file, tf, flags, tg, inF, text, tt, _, k _ _ ((Heap.hide_ne h hne).trans e1), r1, r2, r3, r4, r5, r6, hp, rfl, tr, hne⟩, ⟨o2, vs2, k _ _ ((Heap.hide_ne h hne).trans e2), z⟩, hp⟩
  · obtain ⟨bm, ob, m1, m2, m3, m4, m5, m6⟩ := T.bmain
    exact ⟨bm, ob, m1, m2, ne m3 (by rw [m6]; exact fun q => nomatch q), m4, m5, m6⟩
  · have e1 : (h.hide P).get? (addrIn mg .stream) = some o' := e1
    rw [fa (lookup_mem (by kernel_rfl)) em, ne eo (by rw [ed]; exact fun q => nomatch q)] at e1
    cases e1
    rw [ed] at e2; cases e2
    exact ec
  · obtain ⟨mc, n1, n2⟩ := T.nolimit
    exact ⟨mc, Heap.Ns.hid hP n1, n2⟩
  · obtain ⟨f1, f2, f3, f4, f5⟩ := hq.free x hx
    exact T.free x f1 f2 f3 f4 f5
  · obtain ⟨d, hd, en', ht⟩ := hq.recs (n, f) hn
    obtain ⟨b, ob, pm, code, doc, m1, m2, m3, c, oc, vs, t, c1, c2, c3, c4⟩ := T.fn d hd
    rw [en'] at m1
    have := fa hn m1
    refine ⟨by show mg n = some (.ref (addrIn mg f)); rw [this]; exact m1, ob, pm, code, doc, d.params, d.body, d.scope, ?_, ?_, ⟨c, oc, vs, t, c1, ne c2 (by rw [c3]; intro q; cases q; exact nosome c4), c3, ?_⟩, ht⟩
    · show (h.hide P).get? (addrIn mg f) = some ob
      rw [this]; exact ne m2 (by rw [m3]; exact fun q => nomatch q)
    · rw [m3, en']
    · rw [c4, en']
noncomputable def startW (g : GG) (l : Addr) (o : Obj) (s : Shared) : Wd where
  ψ := g.H.get?
  φ := fun a => if a = l then some o else none
  fs := fun a => if a = g.P then some (tabO #[]) else none
  π := []
  base := s
theorem start_rel {g : GG} {l : Addr} {o : Obj} {s : Shared} (ok : GOk g) (hH : ∀ b o, g.H.get? b = some o → s.heap.get? b = some o) (hP : s.heap.get? g.P = some (tabO #[])) (ho : s.heap.get? l = some o) (hd : ∀ vs, o.data ≠ .fields vs) : WRel g (startW g l o s) [] s where
  gok := ok
  ground := fun a o e => e
  ψ := hH
  φ := fun a o' e => by
    by_cases q : a = l
    · have e : (if a = l then some o else none) = some o' := e
      rw [if_pos q] at e; cases e; rw [q]; exact ho
    · have e : (if a = l then some o else none) = some o' := e
      rw [if_neg q] at e; exact nosome e
  fs := fun a o' e ne => by
    have e : (if a = g.P then some (tabO #[]) else none) = some o' := e
    rw [if_neg ne] at e; exact nosome e
  len := rfl
  muts := fun i a ds e => nomatch e
  nodup := .nil
  apart := fun a h => nomatch h
  live := fun i a ds e => nomatch e
  done := fun i a e => nosome e
  tab := ⟨⟨#[], hP, trivial, fun cv h => nosome h⟩, ok.hid, if_neg fun q => by rw [← q, hP] at ho; cases ho; exact hd _ rfl, #[], if_pos rfl⟩
  rest := ⟨s.heap, s.toks, rfl⟩
theorem ints_v {π : List Addr} {φ : PMap} : ∀ {vs : List Value} {ns : List Int}, IntsAre vs ns → Vs π φ vs (intsD ns)
  | _, _, .nil => .nil
  | _, _, .cons n t h => .cons (.int n t) (ints_v h)
section
set_option tactic.hygienic true
theorem law_walk {q : Program} {XP : (Str → Option Value) → Heap → Prop} {YP : World → Heap → Prop} {d : DefRec} {kwd : List (Str × Expr)} (hq : HeadOk q) (hn : d.name = ("law" : Str)) : WalkO q [] XP YP PySem.Challenge.rw_ik0060_01.row.toRowW d kwd fun f vs => PySem.call f vs := by
  intro w s₀ s₁ mg mb G Y fa o pm cd doc dV kV ho hd hcd hD hmg hg args vals as hpre hlay hrd hwl hlo
  have T := G.T
  clear hD hcd hd ho
  wrow_args hpre hlay hrd hwl hlo
  rename_i ns h1 h2 h3 h4 h5 a1 a2 l vs a3 hL ra hW r0 hI hr hc hc'
  obtain ⟨C, P, ok, hP, isT⟩ := gok (w := w) (loose := []) T hq
  have hns : ns.length ≤ 1000 := by exact ar264 hc
  obtain ⟨ol, hol, hlc, nl, hld⟩ := hL
  have hlist : s₁.heap.get? l = some (listO vs.toArray 0) := by
    cases hW with
    | list e _ =>
      rw [hol] at e
      cases e
      cases hld
      rw [hol]
  have hH : ∀ b o, (mkG w s₁.heap mg mb C P).H.get? b = some o → s₁.heap.get? b = some o := fun b o e => Heap.of_hide e
  have wr := start_rel ok hH hP hlist fun vs q => nomatch q
  have hv : V (startW (mkG w s₁.heap mg mb C P) l (listO vs.toArray 0) s₁).π (startW (mkG w s₁.heap mg mb C P) l (listO vs.toArray 0) s₁).φ (.ref l) (.list (intsD ns)) :=
    .list (if_pos rfl) (by have := (ints_v (π := []) (φ := fun zz => none) hI).length; rw [List.size_toArray, this]; unfold intsD; rw [List.length_map]; exact Nat.le_trans hns (by decide)) (by rw [List.toList_toArray]; exact ints_v hI)
  have ca : CA (startW (mkG w s₁.heap mg mb C P) l (listO vs.toArray 0) s₁) 13 callerA := ⟨rfl, by decide, by decide, [], rfl, fun e h => nomatch h⟩
  have hfa : fa = (mkG w s₁.heap mg mb C P).fa .law := (addrIn_of (mg := mg) (lookup_mem (show fnNames.lookup ("law" : Str) = some Fn.law by kernel_rfl)) (hn ▸ hmg)).symm
  subst hfa
  refine wpAny_call (codeAny_mono (c_law (G := mkG w s₁.heap mg mb C P) hns _ callerA s₁ [.ref l] ca wr (.cons hv .nil)) fun r s' p => ?_)
  cases r with
  | error x => cases p with | mk _ _ _ _ _ _ _ _ f => exact f.elim
  | ok fl =>
    cases fl with
    | ret v =>
      cases p with
      | mk W' d' μ' le w' hv' q' =>
      subst q'
      cases hv'
      obtain ⟨h', t', e'⟩ := w'.rest
      have eb : W'.base = s₁ := le.base
      rw [eb] at e'
      obtain ⟨ps, eP, _⟩ := w'.tab.st
      have keep : ∀ b o, b ≠ P → s₁.heap.get? b = some o → s'.heap.get? b = some o := fun b o q e => w'.ψ b o (by rw [le.ψ]; exact (Heap.hide_ne _ q).trans e)
      refine ⟨.inl ⟨.bool true, .bool true, [], rfl, fun zz => rfl, .bool true, ?_, fun zz => ⟨.nil, fun a h => nomatch h⟩⟩, ⟨fun b o e => ?_, fun b o e => ?_⟩, by rw [e'], by rw [e']; exact .of_eq hg⟩
      · kernel_rfl
      · by_cases q : b = P
        · subst q
          have e := hP.symm.trans e
          cases e
          exact .inr (.inl ⟨isT, rfl, #[], ps, rfl, by rw [Array.empty_append]; exact eP⟩)
        · exact .inl (keep b o q e)
      · by_cases q : b = P
        · subst q; exact ⟨_, eP⟩
        · exact ⟨o, keep b o q e⟩
    | _ => exact p.elim
end
theorem head_ok {q : Program} (h1 : (fnNames.map fun p => ((recsOf q).find? fun d => d.name == p.1).map fun d => (d.params, d.body, d.scope)) = fnNames.map fun p => PySem.Challenge.pw_ik0060_01.theDef p.1)
    (h2 : (fnNames.all fun p => (PySem.Challenge.pw_ik0060_01.theDef p.1).isSome) = true)
    (h3 : ∀ x ∈ freeNames, x ∉ startupNames ∧ x ∉ looseW q [] ∧ x ∉ (recsOf q).map (·.name) ∧ x ∉ (litsOf q).map (·.1) ∧ x ∉ (clssOf q (looseW q [])).map (·.name)) : HeadOk q where
  recs := fun p hp => by
    obtain ⟨t, ht⟩ := Option.isSome_iff_exists.mp (List.all_eq_true.mp h2 p hp)
    have e := List.map_inj_left.mp h1 p hp
    rw [ht] at e
    obtain ⟨d, hd, rfl⟩ := Option.map_eq_some_iff.mp e
    exact ⟨d, List.mem_of_find?_eq_some hd, eq_of_beq (List.find?_some (p := fun d : DefRec => d.name == p.1) hd), ht⟩
  free := h3
structure Ph {α : Type} (p : α) : Prop where mk ::
noncomputable def Ph.get {α : Type} {p : α} (_ : Ph p) : α := p
noncomputable def prog2 : Program := by
  have h : Ph PySem.Challenge.pw_ik0060_01 := ⟨⟩
  conv at h =>
    arg 1
    reduce
  exact h.get
noncomputable def law2 : OpenLaw := { prog := prog2, name := ⟨#[108, 97, 119]⟩, about := PySem.Challenge.rw_ik0060_01.about, foot := 11, most := some 63, bound := none, writes := false }
theorem law2_eq : PySem.Challenge.rw_ik0060_01 = law2 := by kernel_rfl
noncomputable def q2 : Program := view prog2 [0, 2, 4, 6, 7, 9, 11, 13, 14, 15, 16, 17, 19, 20, 21, 22, 23, 25, 26, 28, 29, 30, 31, 32, 33, 34, 35, 36, 37, 38]
theorem law2_left : LeftO prog2 q2 [] (fun zz => true) (fun zz => ()) (fun zz => ()) 3044 := fun w => by kernel_rfl
section
set_option tactic.hygienic true
theorem q2_some : (PySem.W.defOf q2 law2.row.name).isSome = true := by kernel_rfl
noncomputable def lawRec : DefRec × List (Str × Expr) := (PySem.W.defOf q2 law2.row.name).get q2_some
theorem lk1 : namesResolve prog2 = true := by kernel_rfl
theorem lk2 : noRoadLSs { strict := !(importedModules prog2.main.body).all cThrough.contains, foot := none, bare := (["vars", "dir", "locals"] : List Str).filter (readsOut prog2 prog2.main.body) } prog2.main.body = true := by kernel_rfl
theorem lk3 : (namesMeet prog2 prog2.main.body fun zz n => attrL n) = true := by kernel_rfl
theorem lk4 : looksOpen prog2 = true := look_both (look_both (look_both (look_both (by kernel_rfl) lk1) (by kernel_rfl)) lk2) lk3
theorem lk5 : law2.row.wellSaid = true := by
  refine look_both (look_both ?_ (by kernel_rfl)) (by kernel_rfl)
  show (_ && _) = true
  iterate 13 (with_reducible refine look_both ?_ (by kernel_rfl))
  exact lk4
theorem lk6 : law2.wellSaid = true := by
  show (_ && _) = true
  iterate 18 (with_reducible refine look_both ?_ (by kernel_rfl))
  exact lk5
theorem law2_holds : law2.Holds := by
  refine holds_law lk6 fun said => ?_
  refine holds_open (q := q2) (loose := []) (Xt := fun _ => true) (XP := fun _ _ => True) (Yf := fun _ => ()) (Ya := fun _ => ()) (YP := fun _ _ => True) (d := lawRec.1) (kwd := lawRec.2) (N := 3044) law2_left (fun _ _ _ => trivial) (fun _ _ _ _ _ => trivial) (fun _ _ => trivial) (fun _ _ _ _ _ => trivial)
    (Option.some_get q2_some).symm (by kernel_rfl) (by kernel_rfl) (fun s e => recFacts_of (by kernel_rfl)) (by kernel_rfl) said (by kernel_rfl) ⟨by kernel_rfl, by kernel_rfl, by kernel_rfl, by kernel_rfl, by kernel_rfl, by decide +kernel⟩ ⟨[.list []], by kernel_rfl, by kernel_rfl⟩ ?_
  have w := law_walk (XP := fun _ _ => True) (YP := fun _ _ => True) (d := lawRec.1) (kwd := lawRec.2) (head_ok (q := q2) (by kernel_rfl) (by kernel_rfl) (by decide +kernel)) (by kernel_rfl)
  rw [law2_eq] at w
  exact w
end
end Mine
theorem PySem.Challenge.cw_ik0060_01_holds : PySem.Challenge.rw_ik0060_01.Holds := by
  rw [Mine.law2_eq]
  exact Mine.law2_holds
