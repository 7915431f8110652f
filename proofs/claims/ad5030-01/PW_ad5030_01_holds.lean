import PyProof.Rows.All
import Wide.All
import OpenK.AllK
import Wide.FinOn
import Lean
import PySem.Challenge.RW_ad5030_01
set_option Elab.async false
set_option maxRecDepth 100000
section
open PySem PySem.W PyProof.Rows
set_option maxHeartbeats 8000000
open_top Mine.hd for PySem.Challenge.rw_ad5030_01
end
set_option maxHeartbeats 2000000
set_option rowWalk.seconds 0
set_option linter.all false
namespace Mine
section
theorem rs_FL : True := by
  w_top off
  trivial
/-- a wall: behind it no ∀ is seen -/
structure Held (p : Prop) : Prop where mk ::
  out : p
section
def AutoFloatOps.ne_0h := fun {x0} {x1} {x2} {x3} {x4} {x5} {x6} {x7} {x8} {x9} (x10) => Held.mk (@PySem.AutoFloatOps.ne_0 x0 x1 x2 x3 x4 x5 x6 x7 x8 x9 x10)
def Calls.call_len_listh := fun {x0} {x1} {x2} {x3} {x4} {x5} {x6} {x7} (x8) (x9) (x10) => Held.mk (@PySem.Calls.call_len_list x0 x1 x2 x3 x4 x5 x6 x7 x8 x9 x10)
def add_fi_fitsh := fun {x0} {x1} {x2} {x3} {x4} {x5} {x6} {x7} {x8} {x9} (x10) (x11) => Held.mk (@PyProof.Rows.add_fi_fits x0 x1 x2 x3 x4 x5 x6 x7 x8 x9 x10 x11)
def add_floath := fun {x0} {x1} {x2} {x3} {x4} {x5} {x6} {x7} {x8} {x9} (x10) => Held.mk (@PyProof.Rows.add_float x0 x1 x2 x3 x4 x5 x6 x7 x8 x9 x10)
def add_if_fitsh := fun {x0} {x1} {x2} {x3} {x4} {x5} {x6} {x7} {x8} {x9} (x10) (x11) => Held.mk (@PyProof.Rows.add_if_fits x0 x1 x2 x3 x4 x5 x6 x7 x8 x9 x10 x11)
def call_int_float3h := fun {x0} {x1} {x2} {x3} {x4} {x5} {x6} {x7} (x8) (x9) (x10) (x11) => Held.mk (@PySem.Flt.call_int_float3 x0 x1 x2 x3 x4 x5 x6 x7 x8 x9 x10 x11)
def call_trunc_floath := fun {x0} {x1} {x2} {x3} {x4} {x5} {x6} {x7} (x8) (x9) (x10) (x11) => Held.mk (@PySem.Flt.call_trunc_float x0 x1 x2 x3 x4 x5 x6 x7 x8 x9 x10 x11)
def floordiv_inth := fun {x0} {x1} {x2} {x3} {x4} {x5} {x6} {x7} {x8} {x9} (x10) (x11) (x12) => Held.mk (@PyProof.Rows.floordiv_int x0 x1 x2 x3 x4 x5 x6 x7 x8 x9 x10 x11 x12)
def iadd_fih := fun {x0} {x1} {x2} {x3} {x4} {x5} {x6} {x7} {x8} {x9} (x10) (x11) (x12) => Held.mk (@PySem.Flt.iadd_fi x0 x1 x2 x3 x4 x5 x6 x7 x8 x9 x10 x11 x12)
def iadd_floath := fun {x0} {x1} {x2} {x3} {x4} {x5} {x6} {x7} {x8} {x9} (x10) => Held.mk (@PyProof.Rows.iadd_float x0 x1 x2 x3 x4 x5 x6 x7 x8 x9 x10)
def iadd_ifh := fun {x0} {x1} {x2} {x3} {x4} {x5} {x6} {x7} {x8} {x9} (x10) (x11) (x12) => Held.mk (@PySem.Flt.iadd_if x0 x1 x2 x3 x4 x5 x6 x7 x8 x9 x10 x11 x12)
def isub_fih := fun {x0} {x1} {x2} {x3} {x4} {x5} {x6} {x7} {x8} {x9} (x10) (x11) (x12) => Held.mk (@PySem.Flt.isub_fi x0 x1 x2 x3 x4 x5 x6 x7 x8 x9 x10 x11 x12)
def item_anyKh := fun {x0} {x1} {x2} {x3} {x4} {x5} {x6} {x7} {x8} {x9} {x10} {x11} {x12} (x13) (x14) (x15) (x16) (x17) (x18) (x19) => Held.mk (@PySem.W.item_anyK x0 x1 x2 x3 x4 x5 x6 x7 x8 x9 x10 x11 x12 x13 x14 x15 x16 x17 x18 x19)
def kmk_slice_intsh := fun {x0} {x1} {x2} {x3} {x4} {x5} {x6} {x7} {x8} {x9} {x10} {x11} {x12} {x13} {x14} {x15} {x16} {x17} {x18} {x19} {x20} (x21) (x22) (x23) (x24) (x25) (x26) (x27) (x28) (x29) (x30) (x31) (x32) => Held.mk (@PySem.W.kmk_slice_ints x0 x1 x2 x3 x4 x5 x6 x7 x8 x9 x10 x11 x12 x13 x14 x15 x16 x17 x18 x19 x20 x21 x22 x23 x24 x25 x26 x27 x28 x29 x30 x31 x32)
def lt_fih := fun {x0} {x1} {x2} {x3} {x4} {x5} {x6} {x7} {x8} {x9} (x10) => Held.mk (@PyProof.Rows.lt_fi x0 x1 x2 x3 x4 x5 x6 x7 x8 x9 x10)
def mod_fih := fun {x0} {x1} {x2} {x3} {x4} {x5} {x6} {x7} {x8} {x9} (x10) (x11) (x12) (x13) => Held.mk (@PySem.Flt.mod_fi x0 x1 x2 x3 x4 x5 x6 x7 x8 x9 x10 x11 x12 x13)
def mod_inth := fun {x0} {x1} {x2} {x3} {x4} {x5} {x6} {x7} {x8} {x9} (x10) (x11) => Held.mk (@PyProof.Rows.mod_int x0 x1 x2 x3 x4 x5 x6 x7 x8 x9 x10 x11)
def mul_fi_fitsh := fun {x0} {x1} {x2} {x3} {x4} {x5} {x6} {x7} {x8} {x9} (x10) (x11) => Held.mk (@PyProof.Rows.mul_fi_fits x0 x1 x2 x3 x4 x5 x6 x7 x8 x9 x10 x11)
def mul_if_fitsh := fun {x0} {x1} {x2} {x3} {x4} {x5} {x6} {x7} {x8} {x9} (x10) (x11) => Held.mk (@PyProof.Rows.mul_if_fits x0 x1 x2 x3 x4 x5 x6 x7 x8 x9 x10 x11)
def ne_boolh := fun {x0} {x1} {x2} {x3} {x4} {x5} {x6} {x7} (x8) => Held.mk (@PyProof.Rows.ne_bool x0 x1 x2 x3 x4 x5 x6 x7 x8)
def richCompare_meets_roomh := fun {x0} {x1} {x2} {x3} {x4} {x5} {x6} {x7} {x8} {x9} {x10} {x11} {x12} (x13) (x14) (x15) (x16) (x17) (x18) (x19) (x20) => Held.mk (@PySem.richCompare_meets_room x0 x1 x2 x3 x4 x5 x6 x7 x8 x9 x10 x11 x12 x13 x14 x15 x16 x17 x18 x19 x20)
def sub_fi_fitsh := fun {x0} {x1} {x2} {x3} {x4} {x5} {x6} {x7} {x8} {x9} (x10) (x11) => Held.mk (@PyProof.Rows.sub_fi_fits x0 x1 x2 x3 x4 x5 x6 x7 x8 x9 x10 x11)
def sub_floath := fun {x0} {x1} {x2} {x3} {x4} {x5} {x6} {x7} {x8} {x9} (x10) => Held.mk (@PyProof.Rows.sub_float x0 x1 x2 x3 x4 x5 x6 x7 x8 x9 x10)
def sub_if_fitsh := fun {x0} {x1} {x2} {x3} {x4} {x5} {x6} {x7} {x8} {x9} (x10) (x11) => Held.mk (@PyProof.Rows.sub_if_fits x0 x1 x2 x3 x4 x5 x6 x7 x8 x9 x10 x11)
def truediv_fih := fun {x0} {x1} {x2} {x3} {x4} {x5} {x6} {x7} {x8} {x9} (x10) (x11) (x12) (x13) => Held.mk (@PySem.Flt.truediv_fi x0 x1 x2 x3 x4 x5 x6 x7 x8 x9 x10 x11 x12 x13)
def truediv_float_orh := fun {x0} {x1} {x2} {x3} {x4} {x5} {x6} {x7} {x8} {x9} (x10) (x11) (x12) => Held.mk (@PyProof.Rows.truediv_float_or x0 x1 x2 x3 x4 x5 x6 x7 x8 x9 x10 x11 x12)
def truediv_ifh := fun {x0} {x1} {x2} {x3} {x4} {x5} {x6} {x7} {x8} {x9} (x10) (x11) (x12) (x13) => Held.mk (@PySem.Flt.truediv_if x0 x1 x2 x3 x4 x5 x6 x7 x8 x9 x10 x11 x12 x13)
end
open PySem PySem.Float64

/-! magnitudes -/
theorem rep_mag (m c : Nat) (hm : m < 2 ^ 53) (hc : 52 ≤ c) (hc2 : c ≤ 1900) : ∃ t, t < infMag ∧ V t = m * 2 ^ c := by
  by_cases h0 : m = 0
  · exact ⟨0, by decide, by rw [V_zero, h0, Nat.zero_mul]⟩
  have hl : m.log2 < 53 := (Nat.log2_lt h0).mpr hm
  have hlo : 2 ^ m.log2 ≤ m := Nat.log2_self_le h0
  have hhi : m < 2 ^ (m.log2 + 1) := Nat.lt_log2_self
  generalize m.log2 = l at *
  have hq1 : 2 ^ 52 ≤ m * 2 ^ (52 - l) := by
    calc 2 ^ 52 = 2 ^ l * 2 ^ (52 - l) := by rw [← Nat.pow_add]; congr 1; omega
      _ ≤ _ := Nat.mul_le_mul_right _ hlo
  have hq2 : m * 2 ^ (52 - l) < 2 ^ 53 := by
    calc m * 2 ^ (52 - l) < 2 ^ (l + 1) * 2 ^ (52 - l) := Nat.mul_lt_mul_of_pos_right hhi (Nat.two_pow_pos _)
      _ = 2 ^ 53 := by rw [← Nat.pow_add]; congr 1; omega
  refine ⟨(c - (52 - l)) * 2 ^ 52 + m * 2 ^ (52 - l), ?_, ?_⟩
  · have : (infMag : Nat) = 2047 * 2 ^ 52 := rfl
    rw [this]
    have : c - (52 - l) ≤ 1900 := by omega
    generalize m * 2 ^ (52 - l) = q at *
    generalize c - (52 - l) = k at *
    omega
  · rw [V_at (Nat.le_of_lt hq2) (.inl hq1), Nat.mul_assoc, ← Nat.pow_add]
    congr 2
    omega
theorem V_inj {a b : Nat} (h : V a = V b) : a = b := by
  rcases Nat.lt_trichotomy a b with h1 | h1 | h1
  · exact absurd h (Nat.ne_of_lt (V_lt h1))
  · exact h1
  · exact absurd h.symm (Nat.ne_of_lt (V_lt h1))
theorem big_pow : 2 ^ 1951 < (2 ^ 54 - 1) * 2 ^ 2045 := by decide +kernel

/-- a rounding that is not over -/
theorem right_not_over {r : UInt64} {neg : Bool} {W D : Nat} (hD : 0 < D) (h : Right r neg W D) (hW : W ≤ D * 2 ^ 1950) :
    ∃ t, r = pack neg t ∧ t < infMag ∧ ∀ t', dist W (D * V t) ≤ dist W (D * V t') := by
  obtain ⟨t, hr, hle, hov, hn⟩ := h
  have hlt : t < infMag := by
    rcases Nat.lt_or_ge t infMag with h | h
    · exact h
    · exfalso
      have h1 : D * ((2 ^ 54 - 1) * 2 ^ 2045) ≤ 2 * W := hov.mp (by omega)
      have h2 : D * ((2 ^ 54 - 1) * 2 ^ 2045) ≤ D * 2 ^ 1951 := by
        have e : D * 2 ^ 1951 = 2 * (D * 2 ^ 1950) := by rw [Nat.pow_succ (n := 2) (m := 1950), ← Nat.mul_assoc, Nat.mul_comm]
        rw [e]
        omega
      exact absurd (Nat.le_of_mul_le_mul_left h2 hD) (Nat.not_le.mpr big_pow)
  exact ⟨t, hr, hlt, fun t' => (hn hlt t').1⟩

theorem right_exact {r : UInt64} {neg : Bool} {W D t₀ : Nat} (hD : 0 < D) (h : Right r neg W D) (hW : W = D * V t₀) (hb : V t₀ ≤ 2 ^ 1950) : r = pack neg t₀ := by
  obtain ⟨t, hr, _, hn⟩ := right_not_over hD h (by rw [hW]; exact Nat.mul_le_mul_left _ hb)
  have := hn t₀
  rw [hW] at this
  have h0 : dist (D * V t₀) (D * V t₀) = 0 := by unfold dist; omega
  rw [h0] at this
  have h1 : D * V t₀ = D * V t := by unfold dist at this; omega
  have := V_inj (Nat.eq_of_mul_eq_mul_left hD h1)
  rw [hr, this]

theorem zmul {a : Int} (P : Nat) (h : a = 0) : 0 = a.natAbs * P := by subst h; simp
/-! the quarters -/
noncomputable def fq (k : Int) : UInt64 := ofFrac (decide (k < 0)) k.natAbs 4

theorem pow_1072_le {m : Nat} (hm : m < 2 ^ 53) : m * 2 ^ 1072 ≤ 2 ^ 1950 := by
  calc m * 2 ^ 1072 ≤ 2 ^ 53 * 2 ^ 1072 := Nat.mul_le_mul_right _ (Nat.le_of_lt hm)
    _ = 2 ^ 1125 := by rw [← Nat.pow_add]
    _ ≤ 2 ^ 1950 := Nat.pow_le_pow_right (by decide) (by decide)

theorem fq_spec {k : Int} (h : k.natAbs < 2 ^ 53) : ∃ t, t < infMag ∧ fq k = pack (decide (k < 0)) t ∧ V t = k.natAbs * 2 ^ 1072 := by
  obtain ⟨t, ht, hv⟩ := rep_mag k.natAbs 1072 h (by decide) (by decide)
  refine ⟨t, ht, ?_, hv⟩
  refine right_exact (W := V t) (D := 1) (by decide) ?_ (Nat.one_mul _).symm (by rw [hv]; exact pow_1072_le h)
  refine ofFrac_right (by decide) ?_ (by decide)
  rw [hv]
  have e : (2 : Nat) ^ 1074 = 2 ^ 1072 * 4 := by rw [show (4 : Nat) = 2 ^ 2 from rfl, ← Nat.pow_add]
  rw [e]
  generalize (2 : Nat) ^ 1072 = P
  rw [Nat.mul_one, Nat.mul_assoc]

theorem pack_eq_fq {k : Int} {neg : Bool} {t : Nat} (h : k.natAbs < 2 ^ 53) (hn : neg = decide (k < 0)) (hv : V t = k.natAbs * 2 ^ 1072) : pack neg t = fq k := by
  obtain ⟨t', _, he, hv'⟩ := fq_spec h
  rw [he, hn, V_inj (hv.trans hv'.symm)]

theorem fq_fin {k : Int} (h : k.natAbs < 2 ^ 53) : ∃ m e, decode (fq k) = .fin (decide (k < 0)) m e := by
  obtain ⟨t, ht, he, _⟩ := fq_spec h
  obtain ⟨m, e, hd, _⟩ := decode_pack (decide (k < 0)) ht
  exact ⟨m, e, by rw [he]; exact hd⟩
theorem sgn_abs (k : Int) (P : Nat) : sgn (decide (k < 0)) (k.natAbs * P) = k * (P : Int) := by
  unfold sgn
  by_cases h : k < 0
  · rw [if_pos (by simpa using h), Int.natCast_mul, ← Int.neg_mul]
    congr 1
    omega
  · rw [if_neg (by simpa using h), Int.natCast_mul]
    congr 1
    omega
theorem fq_val {k : Int} (h : k.natAbs < 2 ^ 53) : val (fq k) = k * ((2 ^ 1072 : Nat) : Int) := by
  obtain ⟨t, ht, he, hv⟩ := fq_spec h
  rw [he, val_pack _ ht, hv]
  exact sgn_abs k _

theorem right_fq {r : UInt64} {neg : Bool} {W D : Nat} {k : Int} (hD : 0 < D) (h : Right r neg W D) (hk : k.natAbs < 2 ^ 53) (hn : neg = decide (k < 0)) (hW : W = D * (k.natAbs * 2 ^ 1072)) : r = fq k := by
  obtain ⟨t, ht, he, hv⟩ := fq_spec hk
  rw [he, ← hn]
  exact right_exact hD h (by rw [hv]; exact hW) (by rw [hv]; exact pow_1072_le hk)

theorem fq_add {a b : Int} (ha : a.natAbs < 2 ^ 53) (hb : b.natAbs < 2 ^ 53) (hs : (a + b).natAbs < 2 ^ 53) : add (fq a) (fq b) = fq (a + b) := by
  obtain ⟨m, e, hx⟩ := fq_fin ha
  obtain ⟨k, f, hy⟩ := fq_fin hb
  have hr := add_right hx hy
  rw [fq_val ha, fq_val hb, ← Int.add_mul] at hr
  by_cases h0 : a + b = 0
  · rw [hr.1 (by rw [h0, Int.zero_mul])]
    unfold zero
    refine pack_eq_fq hs ?_ ?_
    · rw [h0]
      by_cases h1 : a < 0
      · have : ¬ b < 0 := by omega
        simp [this]
      · simp [h1]
    · exact V_zero.trans (zmul _ h0)
  · have hP : (0 : Int) < ((2 ^ 1072 : Nat) : Int) := Int.ofNat_lt.mpr (Nat.two_pow_pos _)
    generalize hg : ((2 ^ 1072 : Nat) : Int) = P at *
    have hne : (a + b) * P ≠ 0 := fun h => by
      rcases Int.mul_eq_zero.mp h with h | h <;> omega
    refine right_fq (D := 1) (by decide) (hr.2 hne) hs ?_ ?_
    · apply decide_eq_decide.mpr
      constructor
      · intro h
        by_cases h2 : a + b < 0
        · exact h2
        · have := Int.mul_nonneg (show 0 ≤ a + b by omega) (Int.le_of_lt hP)
          omega
      · intro h
        exact Int.mul_neg_of_neg_of_pos h hP
    · rw [Int.natAbs_mul, ← hg, Int.natAbs_natCast, Nat.one_mul]

theorem fq_neg_dec {b : Int} (hb : b.natAbs < 2 ^ 53) : ∃ k f, decode (fq b) = .fin (decide (b < 0)) k f ∧ decode (neg (fq b)) = .fin (!decide (b < 0)) k f ∧ val (neg (fq b)) = -(b * ((2 ^ 1072 : Nat) : Int)) := by
  obtain ⟨k, f, hy⟩ := fq_fin hb
  exact ⟨k, f, hy, neg_decode hy, by rw [neg_val hy, fq_val hb]⟩

theorem fq_sub {a b : Int} (ha : a.natAbs < 2 ^ 53) (hb : b.natAbs < 2 ^ 53) (hs : (a - b).natAbs < 2 ^ 53) : sub (fq a) (fq b) = fq (a - b) := by
  obtain ⟨m, e, hx⟩ := fq_fin ha
  obtain ⟨k, f, hy0, hy, hv⟩ := fq_neg_dec hb
  have hr := add_right hx hy
  have hsub : sub (fq a) (fq b) = add (fq a) (neg (fq b)) := by unfold sub; rfl
  rw [← hsub] at hr
  rw [fq_val ha, hv, ← Int.sub_eq_add_neg, ← Int.sub_mul] at hr
  by_cases h0 : a - b = 0
  · rw [hr.1 (by rw [h0, Int.zero_mul])]
    unfold zero
    refine pack_eq_fq hs ?_ ?_
    · rw [h0]
      by_cases h1 : a < 0
      · have : b < 0 := by omega
        simp [this]
      · simp [h1]
    · exact V_zero.trans (zmul _ h0)
  · have hP : (0 : Int) < ((2 ^ 1072 : Nat) : Int) := Int.ofNat_lt.mpr (Nat.two_pow_pos _)
    generalize hg : ((2 ^ 1072 : Nat) : Int) = P at *
    have hne : (a - b) * P ≠ 0 := fun h => by
      rcases Int.mul_eq_zero.mp h with h | h <;> omega
    refine right_fq (D := 1) (by decide) (hr.2 hne) hs ?_ ?_
    · apply decide_eq_decide.mpr
      constructor
      · intro h
        by_cases h2 : a - b < 0
        · exact h2
        · have := Int.mul_nonneg (show 0 ≤ a - b by omega) (Int.le_of_lt hP)
          omega
      · intro h
        exact Int.mul_neg_of_neg_of_pos h hP
    · rw [Int.natAbs_mul, ← hg, Int.natAbs_natCast, Nat.one_mul]

theorem ofInt_fq {n : Int} (h : (4 * n).natAbs < 2 ^ 53) : ofInt n = fq (4 * n) := by
  refine right_fq (D := 1) (by decide) (ofInt_right n) h ?_ ?_
  · apply decide_eq_decide.mpr; omega
  · have e : (2 : Nat) ^ 1074 = 4 * 2 ^ 1072 := by rw [show (4 : Nat) = 2 ^ 2 from rfl, ← Nat.pow_add]
    rw [e]
    have : (4 * n).natAbs = 4 * n.natAbs := by omega
    rw [this, Nat.one_mul]
    generalize (2 : Nat) ^ 1072 = P
    rw [← Nat.mul_assoc, Nat.mul_comm n.natAbs 4]

/-- a positive quarter-float times a quarter-float, where the product is one -/
theorem fq_mul {a b c : Int} (ha0 : 0 < a) (ha : a.natAbs < 2 ^ 53) (hb : b.natAbs < 2 ^ 53) (hc : a * b = 4 * c) (hs : c.natAbs < 2 ^ 53) : mul (fq a) (fq b) = fq c := by
  obtain ⟨m, e, hx⟩ := fq_fin ha
  obtain ⟨k, f, hy⟩ := fq_fin hb
  have hr := mul_right hx hy
  rw [fq_val ha, fq_val hb, Int.natAbs_mul, Int.natAbs_mul, Int.natAbs_natCast] at hr
  refine right_fq (Nat.two_pow_pos _) hr hs ?_ ?_
  · have h1 : decide (a < 0) = false := by simp; omega
    rw [h1, Bool.false_bne]
    apply decide_eq_decide.mpr
    constructor
    · intro h
      have := Int.mul_neg_of_pos_of_neg ha0 h
      omega
    · intro h
      by_cases h2 : b < 0
      · exact h2
      · have := Int.mul_nonneg (Int.le_of_lt ha0) (show 0 ≤ b by omega)
        omega
  · have h4 : a.natAbs * b.natAbs = 4 * c.natAbs := by
      rw [← Int.natAbs_mul, hc, Int.natAbs_mul]; rfl
    have e : (2 : Nat) ^ 1074 = 4 * 2 ^ 1072 := by rw [show (4 : Nat) = 2 ^ 2 from rfl, ← Nat.pow_add]
    rw [e]
    generalize (2 : Nat) ^ 1072 = P
    calc a.natAbs * P * (b.natAbs * P) = a.natAbs * b.natAbs * (P * P) := by ac_rfl
      _ = 4 * c.natAbs * (P * P) := by rw [h4]
      _ = 4 * P * (c.natAbs * P) := by ac_rfl

theorem fq_mul_r {a b c : Int} (hb0 : 0 < b) (ha : a.natAbs < 2 ^ 53) (hb : b.natAbs < 2 ^ 53) (hc : a * b = 4 * c) (hs : c.natAbs < 2 ^ 53) : mul (fq a) (fq b) = fq c := by
  obtain ⟨m, e, hx⟩ := fq_fin ha
  obtain ⟨k, f, hy⟩ := fq_fin hb
  have hr := mul_right hx hy
  rw [fq_val ha, fq_val hb, Int.natAbs_mul, Int.natAbs_mul, Int.natAbs_natCast] at hr
  refine right_fq (Nat.two_pow_pos _) hr hs ?_ ?_
  · have h1 : decide (b < 0) = false := by simp; omega
    rw [h1, Bool.bne_false]
    apply decide_eq_decide.mpr
    constructor
    · intro h
      have := Int.mul_neg_of_neg_of_pos h hb0
      omega
    · intro h
      by_cases h2 : a < 0
      · exact h2
      · have := Int.mul_nonneg (show 0 ≤ a by omega) (Int.le_of_lt hb0)
        omega
  · have h4 : a.natAbs * b.natAbs = 4 * c.natAbs := by
      rw [← Int.natAbs_mul, hc, Int.natAbs_mul]; rfl
    have e : (2 : Nat) ^ 1074 = 4 * 2 ^ 1072 := by rw [show (4 : Nat) = 2 ^ 2 from rfl, ← Nat.pow_add]
    rw [e]
    generalize (2 : Nat) ^ 1072 = P
    calc a.natAbs * P * (b.natAbs * P) = a.natAbs * b.natAbs * (P * P) := by ac_rfl
      _ = 4 * c.natAbs * (P * P) := by rw [h4]
      _ = 4 * P * (c.natAbs * P) := by ac_rfl
end
section
theorem rs_FM : True := by
  w_top off
  trivial
open PySem PySem.Float64

theorem p74 : (2 : Nat) ^ 1074 = 2 ^ 1072 * 4 := by rw [show (4 : Nat) = 2 ^ 2 from rfl, ← Nat.pow_add]
theorem floorOf_gen (a : Bool) (m : Nat) {e : Int} (he : -1074 ≤ e) : floorOf a m e = sgn a (m * 2 ^ (e + 1074).toNat) / ((2 ^ 1074 : Nat) : Int) := by
  unfold floorOf
  rw [sgn_mul]
  split
  · rename_i h
    have e1 : (e + 1074).toNat = e.toNat + 1074 := by omega
    rw [e1, Nat.pow_add, Int.natCast_mul, ← Int.mul_assoc, Int.mul_ediv_cancel]
    · rw [Int.natCast_pow]; rfl
    · have := Nat.two_pow_pos 1074
      intro h
      have := Int.ofNat.inj h
      omega
  · rename_i h
    have e1 : (1074 : Nat) = (-e).toNat + (e + 1074).toNat := by omega
    have e2 : (2 : Nat) ^ 1074 = 2 ^ (-e).toNat * 2 ^ (e + 1074).toNat := by rw [← Nat.pow_add, ← e1]
    rw [e2, Int.natCast_mul, Int.mul_ediv_mul_of_pos_left, Int.fdiv_eq_ediv_of_nonneg]
    · rw [Int.natCast_pow]; rfl
    · exact Int.le_of_lt (Int.pow_pos (by decide))
    · exact Int.ofNat_lt.mpr (Nat.two_pow_pos _)
theorem floorOf_val {x : UInt64} {a : Bool} {m : Nat} {e : Int} (h : decode x = .fin a m e) : floorOf a m e = val x / ((2 ^ 1074 : Nat) : Int) := by
  rw [floorOf_gen a m (decode_ge h), val_eq h]
theorem ceilOf_val {x : UInt64} {a : Bool} {m : Nat} {e : Int} (h : decode x = .fin a m e) : ceilOf a m e = -((-val x) / ((2 ^ 1074 : Nat) : Int)) := by
  unfold ceilOf
  rw [floorOf_gen _ m (decode_ge h), val_eq h, sgn_not]

theorem pos72 : (0 : Int) < ((2 ^ 1072 : Nat) : Int) := Int.ofNat_lt.mpr (Nat.two_pow_pos _)
theorem div74 (k : Int) : k * ((2 ^ 1072 : Nat) : Int) / ((2 ^ 1074 : Nat) : Int) = k / 4 := by
  rw [p74, Nat.mul_comm, Int.natCast_mul, Int.mul_ediv_mul_of_pos_left _ _ pos72]
  rfl
theorem floor_fq {k : Int} (h : k.natAbs < 2 ^ 53) : Flt.toInt floorOf (fq k) = k / 4 := by
  obtain ⟨m, e, hd⟩ := fq_fin h
  rw [Flt.toInt_fin hd, floorOf_val hd, fq_val h, div74]
theorem ceil_fq {k : Int} (h : k.natAbs < 2 ^ 53) : Flt.toInt ceilOf (fq k) = -((-k) / 4) := by
  obtain ⟨m, e, hd⟩ := fq_fin h
  rw [Flt.toInt_fin hd, ceilOf_val hd, fq_val h, ← Int.neg_mul, div74]
theorem trunc_fq {k : Int} (h0 : 0 ≤ k) (h : k.natAbs < 2 ^ 53) : Flt.toInt truncOf (fq k) = k / 4 := by
  obtain ⟨m, e, hd⟩ := fq_fin h
  have h1 : decide (k < 0) = false := by simp; omega
  rw [Flt.toInt_fin hd]
  unfold truncOf
  rw [h1] at hd ⊢
  rw [if_neg (by decide), floorOf_val hd, fq_val h, div74]
theorem finite_fq {k : Int} (h : k.natAbs < 2 ^ 53) : isFinite (fq k) = true := by
  obtain ⟨m, e, hd⟩ := fq_fin h
  unfold isFinite; rw [hd]
theorem isZero_fq {k : Int} (h : k.natAbs < 2 ^ 53) (h0 : k ≠ 0) : isZero (fq k) = false := by
  obtain ⟨m, e, hd⟩ := fq_fin h
  have hv := fq_val h
  rw [val_eq hd] at hv
  unfold isZero
  rw [hd]
  cases m with
  | succ m => rfl
  | zero =>
    exfalso
    rw [Nat.zero_mul] at hv
    have : k * ((2 ^ 1072 : Nat) : Int) = 0 := by rw [← hv]; unfold sgn; split <;> rfl
    rcases Int.mul_eq_zero.mp this with h | h
    · exact h0 h
    · have := pos72; omega

theorem compare_mul (a b P : Int) (hP : 0 < P) : compare (a * P) (b * P) = compare a b := by
  rcases Int.lt_trichotomy a b with h | h | h
  · rw [Int.compare_eq_lt.mpr h, Int.compare_eq_lt.mpr (Int.mul_lt_mul_of_pos_right h hP)]
  · subst h; simp
  · rw [Int.compare_eq_gt.mpr h, Int.compare_eq_gt.mpr (Int.mul_lt_mul_of_pos_right h hP)]
theorem cmp_fq {a b : Int} (ha : a.natAbs < 2 ^ 53) (hb : b.natAbs < 2 ^ 53) : cmp (fq a) (fq b) = some (compare a b) := by
  obtain ⟨m, e, hx⟩ := fq_fin ha
  obtain ⟨k, f, hy⟩ := fq_fin hb
  rw [cmp_right hx hy, fq_val ha, fq_val hb, compare_mul _ _ _ pos72]
theorem cmpInt_fq {a : Int} (ha : a.natAbs < 2 ^ 53) (i : Int) : cmpInt (fq a) i = some (compare a (4 * i)) := by
  obtain ⟨m, e, hx⟩ := fq_fin ha
  have e1 : (i * 2 ^ 1074 : Int) = 4 * i * ((2 ^ 1072 : Nat) : Int) := by
    have : (2 : Int) ^ 1074 = ((2 ^ 1074 : Nat) : Int) := by rw [Int.natCast_pow]; rfl
    rw [this, p74, Int.natCast_mul]
    generalize ((2 ^ 1072 : Nat) : Int) = P
    show i * (P * 4) = 4 * i * P
    rw [Int.mul_comm P 4, ← Int.mul_assoc, Int.mul_comm i 4]
  rw [cmpInt_right hx, fq_val ha, e1, compare_mul _ _ _ pos72]

/-! roundings between floats -/
theorem right_ge {r : UInt64} {neg : Bool} {W D : Nat} (hD : 0 < D) (h : Right r neg W D) (hW : W ≤ D * 2 ^ 1950) : ∃ t, r = pack neg t ∧ t < infMag ∧ (∀ s, D * V s ≤ W → V s ≤ V t) ∧ ∀ s, W ≤ D * V s → V t ≤ V s := by
  obtain ⟨t, hr, ht, hn⟩ := right_not_over hD h hW
  refine ⟨t, hr, ht, fun s hs => ?_, fun s hs => ?_⟩
  · rcases Nat.lt_or_ge (V t) (V s) with h1 | h1
    · exfalso
      have h2 := Nat.mul_lt_mul_of_pos_left h1 hD
      have := hn s
      unfold dist at this
      omega
    · exact h1
  · rcases Nat.lt_or_ge (V s) (V t) with h1 | h1
    · exfalso
      have h2 := Nat.mul_lt_mul_of_pos_left h1 hD
      have := hn s
      unfold dist at this
      omega
    · exact h1
/-- the value of a rounding lies between floats as its true value does: m * 2^c is one -/
theorem right_between {r : UInt64} {neg : Bool} {W D : Nat} (hD : 0 < D) (h : Right r neg W D) (hW : W ≤ D * 2 ^ 1950) (c : Nat) (hc : 52 ≤ c) (hc2 : c ≤ 1900) :
    (∃ m e, decode r = .fin neg m e) ∧ (∀ k : Int, k.natAbs < 2 ^ 53 → k * ((2 ^ c : Nat) : Int) * (D : Int) ≤ sgn neg W → k * ((2 ^ c : Nat) : Int) ≤ val r) ∧
    ∀ k : Int, k.natAbs < 2 ^ 53 → sgn neg W ≤ k * ((2 ^ c : Nat) : Int) * (D : Int) → val r ≤ k * ((2 ^ c : Nat) : Int) := by
  obtain ⟨t, hr, ht, h1, h2⟩ := right_ge hD h hW
  obtain ⟨m, e, hd, _⟩ := decode_pack neg ht
  refine ⟨⟨m, e, by rw [hr]; exact hd⟩, ?_⟩
  have hv : val r = sgn neg (V t) := by rw [hr, val_pack _ ht]
  rw [hv]
  have hP : (0 : Int) < ((2 ^ c : Nat) : Int) := Int.ofNat_lt.mpr (Nat.two_pow_pos _)
  have key : ∀ k : Int, k.natAbs < 2 ^ 53 → ∃ s, (V s : Int) = (k.natAbs : Int) * ((2 ^ c : Nat) : Int) := fun k hk => by
    obtain ⟨s, _, hs⟩ := rep_mag k.natAbs c hk hc hc2
    exact ⟨s, by rw [hs, Int.natCast_mul]⟩
  have hDi : (0 : Int) < (D : Int) := Int.ofNat_lt.mpr hD
  generalize hg : ((2 ^ c : Nat) : Int) = P at *
  have h1' : ∀ s, (D : Int) * (V s : Int) ≤ (W : Int) → (V s : Int) ≤ (V t : Int) := fun s hs => Int.ofNat_le.mpr (h1 s (by rw [← Int.natCast_mul] at hs; exact Int.ofNat_le.mp hs))
  have h2' : ∀ s, (W : Int) ≤ (D : Int) * (V s : Int) → (V t : Int) ≤ (V s : Int) := fun s hs => Int.ofNat_le.mpr (h2 s (by rw [← Int.natCast_mul] at hs; exact Int.ofNat_le.mp hs))
  have hW0 : (0 : Int) ≤ (W : Int) := Int.natCast_nonneg _
  have hT0 : (0 : Int) ≤ (V t : Int) := Int.natCast_nonneg _
  unfold sgn
  refine ⟨fun k hk hle => ?_, fun k hk hle => ?_⟩
  · obtain ⟨s, hs⟩ := key k hk
    cases neg with
    | false =>
      simp only [Bool.false_eq_true, if_false] at hle ⊢
      rcases Int.le_total k 0 with hk0 | hk0
      · have := Int.mul_nonneg (show 0 ≤ -k by omega) (Int.le_of_lt hP)
        rw [Int.neg_mul] at this
        omega
      · have hk1 : (k.natAbs : Int) = k := by omega
        rw [hk1] at hs
        have := h1' s (by rw [hs, Int.mul_comm]; exact hle)
        omega
    | true =>
      simp only [if_true] at hle ⊢
      rcases Int.le_total 0 k with hk0 | hk0
      · have h3 := Int.mul_nonneg (Int.mul_nonneg hk0 (Int.le_of_lt hP)) (Int.le_of_lt hDi)
        have hW1 : (W : Int) = 0 := by omega
        have h4 : k * P * (D : Int) = 0 := by omega
        have h5 : k * P = 0 := by
          rcases Int.mul_eq_zero.mp h4 with h | h
          · exact h
          · omega
        have h6 := h2' 0 (by rw [hW1]; exact Int.mul_nonneg (Int.le_of_lt hDi) (Int.natCast_nonneg _))
        rw [V_zero] at h6
        omega
      · have hk1 : (k.natAbs : Int) = -k := by omega
        rw [hk1, Int.neg_mul] at hs
        have h3 : (W : Int) ≤ (D : Int) * (V s : Int) := by
          rw [hs, Int.mul_neg, Int.mul_comm]
          omega
        have := h2' s h3
        omega
  · obtain ⟨s, hs⟩ := key k hk
    cases neg with
    | false =>
      simp only [Bool.false_eq_true, if_false] at hle ⊢
      rcases Int.le_total k 0 with hk0 | hk0
      · have h3 := Int.mul_nonneg (Int.mul_nonneg (show 0 ≤ -k by omega) (Int.le_of_lt hP)) (Int.le_of_lt hDi)
        rw [Int.neg_mul, Int.neg_mul] at h3
        have hW1 : (W : Int) = 0 := by omega
        have h4 : k * P * (D : Int) = 0 := by omega
        have h5 : k * P = 0 := by
          rcases Int.mul_eq_zero.mp h4 with h | h
          · exact h
          · omega
        have h6 := h2' 0 (by rw [hW1]; exact Int.mul_nonneg (Int.le_of_lt hDi) (Int.natCast_nonneg _))
        rw [V_zero] at h6
        omega
      · have hk1 : (k.natAbs : Int) = k := by omega
        rw [hk1] at hs
        have := h2' s (by rw [hs, Int.mul_comm]; exact hle)
        omega
    | true =>
      simp only [if_true] at hle ⊢
      rcases Int.le_total 0 k with hk0 | hk0
      · have := Int.mul_nonneg hk0 (Int.le_of_lt hP)
        omega
      · have hk1 : (k.natAbs : Int) = -k := by omega
        rw [hk1, Int.neg_mul] at hs
        have h3 : (D : Int) * (V s : Int) ≤ (W : Int) := by
          rw [hs, Int.mul_neg, Int.mul_comm]
          omega
        have := h1' s h3
        omega

theorem pow_split {a b c : Nat} (h : a = b + c) : ((2 ^ a : Nat) : Int) = ((2 ^ b : Nat) : Int) * ((2 ^ c : Nat) : Int) := by
  rw [h, Nat.pow_add, Int.natCast_mul]

/-- the floor of a rounding: its true value lies in [k, k + 1 - 2^-20] -/
theorem right_floor {r : UInt64} {neg : Bool} {W D : Nat} {k : Int} (hD : 0 < D) (h : Right r neg W D) (hW : W ≤ D * 2 ^ 1950) (hk : k.natAbs < 2 ^ 32)
    (h1 : k * 1048576 * (((2 ^ 1054 : Nat) : Int) * (D : Int)) ≤ sgn neg W) (h2 : sgn neg W ≤ ((k + 1) * 1048576 - 1) * (((2 ^ 1054 : Nat) : Int) * (D : Int))) :
    isFinite r = true ∧ Flt.toInt floorOf r = k ∧ val r ≤ ((k + 1) * 1048576 - 1) * ((2 ^ 1054 : Nat) : Int) ∧ k * 1048576 * ((2 ^ 1054 : Nat) : Int) ≤ val r := by
  obtain ⟨⟨m, e, hd⟩, ha, hb⟩ := right_between hD h hW 1054 (by decide) (by decide)
  have h3 := ha (k * 1048576) (by omega) (by rw [Int.mul_assoc]; exact h1)
  have h4 := hb ((k + 1) * 1048576 - 1) (by omega) (by rw [Int.mul_assoc]; exact h2)
  refine ⟨by unfold isFinite; rw [hd], ?_, h4, h3⟩
  rw [Flt.toInt_fin hd, floorOf_val hd]
  have e1 : ((2 ^ 1074 : Nat) : Int) = ((2 ^ 1054 : Nat) : Int) * 1048576 := by
    rw [pow_split (b := 1054) (c := 20) (by decide)]
    rfl
  have hP : (0 : Int) < ((2 ^ 1054 : Nat) : Int) := Int.ofNat_lt.mpr (Nat.two_pow_pos _)
  rw [e1]
  generalize ((2 ^ 1054 : Nat) : Int) = P at *
  have h5 : val r / (P * 1048576) = val r / P / 1048576 := (Int.ediv_ediv_of_nonneg (Int.le_of_lt hP)).symm
  have h6 : k * 1048576 ≤ val r / P := by
    rw [Int.le_ediv_iff_mul_le hP]; exact h3
  have h7 : val r / P ≤ (k + 1) * 1048576 - 1 := by
    have := Int.ediv_le_ediv hP h4
    rw [Int.mul_ediv_cancel _ (by omega)] at this
    exact this
  rw [h5]
  omega
end
section
theorem rs_FN : True := by
  w_top off
  trivial
open PySem PySem.Float64

theorem right_ceil {r : UInt64} {neg : Bool} {W D : Nat} {k : Int} (hD : 0 < D) (h : Right r neg W D) (hW : W ≤ D * 2 ^ 1950) (hk : k.natAbs < 2 ^ 32)
    (h1 : sgn neg W ≤ k * 1048576 * (((2 ^ 1054 : Nat) : Int) * (D : Int))) (h2 : ((k - 1) * 1048576 + 1) * (((2 ^ 1054 : Nat) : Int) * (D : Int)) ≤ sgn neg W) :
    isFinite r = true ∧ Flt.toInt ceilOf r = k := by
  obtain ⟨⟨m, e, hd⟩, ha, hb⟩ := right_between hD h hW 1054 (by decide) (by decide)
  have h3 := hb (k * 1048576) (by omega) (by rw [Int.mul_assoc]; exact h1)
  have h4 := ha ((k - 1) * 1048576 + 1) (by omega) (by rw [Int.mul_assoc]; exact h2)
  refine ⟨by unfold isFinite; rw [hd], ?_⟩
  rw [Flt.toInt_fin hd, ceilOf_val hd]
  have e1 : ((2 ^ 1074 : Nat) : Int) = ((2 ^ 1054 : Nat) : Int) * 1048576 := by
    rw [pow_split (b := 1054) (c := 20) (by decide)]
    rfl
  have hP : (0 : Int) < ((2 ^ 1054 : Nat) : Int) := Int.ofNat_lt.mpr (Nat.two_pow_pos _)
  rw [e1]
  generalize ((2 ^ 1054 : Nat) : Int) = P at *
  have h5 : -val r / (P * 1048576) = -val r / P / 1048576 := (Int.ediv_ediv_of_nonneg (Int.le_of_lt hP)).symm
  have h6 : -(k * 1048576) ≤ -val r / P := by
    rw [Int.le_ediv_iff_mul_le hP, Int.neg_mul]; omega
  have h7 : -val r / P ≤ -((k - 1) * 1048576 + 1) := by
    have : -val r ≤ -((k - 1) * 1048576 + 1) * P := by rw [Int.neg_mul]; omega
    have := Int.ediv_le_ediv hP this
    rw [Int.mul_ediv_cancel _ (by omega)] at this
    exact this
  rw [h5]
  omega

theorem e1054 : ((2 ^ 1074 : Nat) : Int) = ((2 ^ 1054 : Nat) : Int) * 1048576 := by
  rw [pow_split (b := 1054) (c := 20) (by decide)]
  rfl
theorem room {a b S : Nat} (hb : 0 < b) (ha : a < 2 ^ 60) : a * S * 2 ^ 1074 ≤ b * S * 2 ^ 1950 := by
  have h1 : a * 2 ^ 1074 ≤ b * 2 ^ 1950 := by
    calc a * 2 ^ 1074 ≤ 2 ^ 60 * 2 ^ 1074 := Nat.mul_le_mul_right _ (Nat.le_of_lt ha)
      _ = 2 ^ 1134 := by rw [← Nat.pow_add]
      _ ≤ 2 ^ 1950 := Nat.pow_le_pow_right (by decide) (by decide)
      _ ≤ b * 2 ^ 1950 := Nat.le_mul_of_pos_left _ hb
  generalize (2 : Nat) ^ 1074 = P at *
  generalize (2 : Nat) ^ 1950 = R at *
  calc a * S * P = S * (a * P) := by ac_rfl
    _ ≤ S * (b * R) := Nat.mul_le_mul_left _ h1
    _ = b * S * R := by ac_rfl

theorem alg1 (k b C : Int) : k * C * b = b * k * C := by ac_rfl
theorem alg2 (k b C : Int) : ((k + 1) * C - 1) * b = b * k * C + b * C - b := by
  rw [Int.sub_mul, Int.one_mul, Int.add_mul, Int.one_mul, Int.add_mul, alg1, Int.mul_comm C b]
theorem alg3 (k b C : Int) : -k * C * b = -(b * k * C) := by rw [Int.neg_mul, Int.neg_mul, alg1]
theorem alg4 (k b C : Int) : ((-k - 1) * C + 1) * b = -(b * k * C) - b * C + b := by
  rw [Int.add_mul, Int.one_mul, Int.sub_mul, Int.one_mul, Int.sub_mul, alg3, Int.mul_comm C b]
theorem quot_floor {r : UInt64} {neg : Bool} {a b : Int} {S : Nat} (hS : 0 < S) (hb : 0 < b) (hb2 : b ≤ 1048576) (ha : a.natAbs < 2 ^ 60) (hk : (a / b).natAbs < 2 ^ 32)
    (h : Right r neg (a.natAbs * S * 2 ^ 1074) (b.natAbs * S)) (hn : neg = decide (a < 0)) : isFinite r = true ∧ Flt.toInt floorOf r = a / b := by
  have hb0 : 0 < b.natAbs := by omega
  have hD : 0 < b.natAbs * S := Nat.mul_pos hb0 hS
  have hq := Int.mul_ediv_add_emod a b
  have hr0 := Int.emod_nonneg a (show b ≠ 0 by omega)
  have hr1 := Int.emod_lt_of_pos a hb
  generalize hkk : a / b = k at *
  generalize a % b = q at *
  have hs : sgn neg (a.natAbs * S * 2 ^ 1074) = a * 1048576 * (((2 ^ 1054 : Nat) : Int) * (S : Int)) := by
    rw [hn, Nat.mul_assoc, sgn_abs, Int.natCast_mul, e1054]
    generalize ((2 ^ 1054 : Nat) : Int) = P
    rw [Int.mul_assoc]
    congr 1
    ac_rfl
  have hM : (0 : Int) ≤ ((2 ^ 1054 : Nat) : Int) * (S : Int) := Int.mul_nonneg (Int.natCast_nonneg _) (Int.natCast_nonneg _)
  have eD : ((2 ^ 1054 : Nat) : Int) * ((b.natAbs * S : Nat) : Int) = b * (((2 ^ 1054 : Nat) : Int) * (S : Int)) := by
    have : ((b.natAbs : Nat) : Int) = b := by omega
    rw [Int.natCast_mul, this]
    generalize ((2 ^ 1054 : Nat) : Int) = P
    ac_rfl
  have key := right_floor (k := k) hD h (room hb0 ha) hk ?_ ?_
  · exact ⟨key.1, key.2.1⟩
  · rw [hs, eD]
    generalize ((2 ^ 1054 : Nat) : Int) * (S : Int) = M at *
    rw [← Int.mul_assoc]
    refine Int.mul_le_mul_of_nonneg_right ?_ hM
    rw [alg1 k b 1048576]
    generalize b * k = z at *
    omega
  · rw [hs, eD]
    generalize ((2 ^ 1054 : Nat) : Int) * (S : Int) = M at *
    rw [← Int.mul_assoc]
    refine Int.mul_le_mul_of_nonneg_right ?_ hM
    rw [alg2 k b 1048576]
    generalize b * k = z at *
    omega

theorem quot_ceil {r : UInt64} {neg : Bool} {a b : Int} {S : Nat} (hS : 0 < S) (hb : 0 < b) (hb2 : b ≤ 1048576) (ha : a.natAbs < 2 ^ 60) (hk : ((-a) / b).natAbs < 2 ^ 32)
    (h : Right r neg (a.natAbs * S * 2 ^ 1074) (b.natAbs * S)) (hn : neg = decide (a < 0)) : isFinite r = true ∧ Flt.toInt ceilOf r = -((-a) / b) := by
  have hb0 : 0 < b.natAbs := by omega
  have hD : 0 < b.natAbs * S := Nat.mul_pos hb0 hS
  have hq := Int.mul_ediv_add_emod (-a) b
  have hr0 := Int.emod_nonneg (-a) (show b ≠ 0 by omega)
  have hr1 := Int.emod_lt_of_pos (-a) hb
  generalize hkk : (-a) / b = k at *
  generalize (-a) % b = q at *
  have hs : sgn neg (a.natAbs * S * 2 ^ 1074) = a * 1048576 * (((2 ^ 1054 : Nat) : Int) * (S : Int)) := by
    rw [hn, Nat.mul_assoc, sgn_abs, Int.natCast_mul, e1054]
    generalize ((2 ^ 1054 : Nat) : Int) = P
    rw [Int.mul_assoc]
    congr 1
    ac_rfl
  have hM : (0 : Int) ≤ ((2 ^ 1054 : Nat) : Int) * (S : Int) := Int.mul_nonneg (Int.natCast_nonneg _) (Int.natCast_nonneg _)
  have eD : ((2 ^ 1054 : Nat) : Int) * ((b.natAbs * S : Nat) : Int) = b * (((2 ^ 1054 : Nat) : Int) * (S : Int)) := by
    have : ((b.natAbs : Nat) : Int) = b := by omega
    rw [Int.natCast_mul, this]
    generalize ((2 ^ 1054 : Nat) : Int) = P
    ac_rfl
  refine right_ceil (k := -k) hD h (room hb0 ha) (by omega) ?_ ?_
  · rw [hs, eD]
    generalize ((2 ^ 1054 : Nat) : Int) * (S : Int) = M at *
    rw [← Int.mul_assoc]
    refine Int.mul_le_mul_of_nonneg_right ?_ hM
    rw [alg3 k b 1048576]
    generalize b * k = z at *
    omega
  · rw [hs, eD]
    generalize ((2 ^ 1054 : Nat) : Int) * (S : Int) = M at *
    rw [← Int.mul_assoc]
    refine Int.mul_le_mul_of_nonneg_right ?_ hM
    rw [alg4 k b 1048576]
    generalize b * k = z at *
    omega

theorem div_right_fq {a b : Int} (ha : a.natAbs < 2 ^ 53) (hb : b.natAbs < 2 ^ 53) (hb0 : 0 < b) :
    Right (div (fq a) (fq b)) (decide (a < 0)) (a.natAbs * 2 ^ 1072 * 2 ^ 1074) (b.natAbs * 2 ^ 1072) := by
  obtain ⟨m, e, hx⟩ := fq_fin ha
  obtain ⟨k, f, hy⟩ := fq_fin hb
  have hv := fq_val hb
  have hk : k ≠ 0 := fun h => by
    rw [val_eq hy, h, Nat.zero_mul] at hv
    have h2 : b * ((2 ^ 1072 : Nat) : Int) = 0 := by rw [← hv]; unfold sgn; split <;> rfl
    rcases Int.mul_eq_zero.mp h2 with h | h
    · omega
    · have := pos72; omega
  have hr := div_right hx hy hk
  rw [fq_val ha, fq_val hb, Int.natAbs_mul, Int.natAbs_mul, Int.natAbs_natCast] at hr
  have h1 : decide (b < 0) = false := by simp; omega
  rw [h1, Bool.bne_false] at hr
  exact hr
theorem floor_div_fq {a b : Int} (ha : a.natAbs < 2 ^ 53) (hb0 : 0 < b) (hb2 : b ≤ 1048576) (hk : (a / b).natAbs < 2 ^ 32) :
    isFinite (div (fq a) (fq b)) = true ∧ Flt.toInt floorOf (div (fq a) (fq b)) = a / b :=
  quot_floor (Nat.two_pow_pos 1072) hb0 hb2 (by omega) hk (div_right_fq ha (by omega) hb0) rfl
theorem ceil_div_fq {a b : Int} (ha : a.natAbs < 2 ^ 53) (hb0 : 0 < b) (hb2 : b ≤ 1048576) (hk : ((-a) / b).natAbs < 2 ^ 32) :
    isFinite (div (fq a) (fq b)) = true ∧ Flt.toInt ceilOf (div (fq a) (fq b)) = -((-a) / b) :=
  quot_ceil (Nat.two_pow_pos 1072) hb0 hb2 (by omega) hk (div_right_fq ha (by omega) hb0) rfl
theorem floor_frac {a b : Int} (ha : a.natAbs < 2 ^ 53) (hb0 : 0 < b) (hb2 : b ≤ 1048576) (hk : (a / b).natAbs < 2 ^ 32) :
    isFinite (ofFrac (decide (a < 0) != decide (b < 0)) a.natAbs b.natAbs) = true ∧ Flt.toInt floorOf (ofFrac (decide (a < 0) != decide (b < 0)) a.natAbs b.natAbs) = a / b := by
  refine quot_floor (S := 1) (by decide) hb0 hb2 (by omega) hk (ofFrac_right (by omega) ?_ (by omega)) ?_
  · rw [Nat.mul_one, Nat.mul_one]
  · have h1 : decide (b < 0) = false := by simp; omega
    rw [h1, Bool.bne_false]

/-! the remainder -/
theorem fmod_fq {a b : Int} (ha : a.natAbs < 2 ^ 53) (hb : b.natAbs < 2 ^ 53) (hb0 : 0 < b) :
    fmod (fq a) (fq b) = pack (decide (a < 0)) 0 ∧ a.natAbs % b.natAbs = 0 ∨ fmod (fq a) (fq b) = fq (if a < 0 then -((a.natAbs % b.natAbs : Nat) : Int) else ((a.natAbs % b.natAbs : Nat) : Int)) ∧ a.natAbs % b.natAbs ≠ 0 := by
  obtain ⟨m, e, hx⟩ := fq_fin ha
  obtain ⟨k, f, hy⟩ := fq_fin hb
  have hv := fq_val hb
  have hk : k ≠ 0 := fun h => by
    rw [val_eq hy, h, Nat.zero_mul] at hv
    have h2 : b * ((2 ^ 1072 : Nat) : Int) = 0 := by rw [← hv]; unfold sgn; split <;> rfl
    rcases Int.mul_eq_zero.mp h2 with h | h
    · omega
    · have := pos72; omega
  have he := decode_ge hx
  have hf := decode_ge hy
  have hm : fmod (fq a) (fq b) = ofBin (decide (a < 0)) (m * 2 ^ (e - min e f).toNat % (k * 2 ^ (f - min e f).toNat)) (min e f) := by
    unfold fmod
    rw [hx, hy]
    simp only
    rw [if_neg (by simpa using hk)]
    unfold align sgn
    simp only [Bool.false_eq_true, if_false, Int.toNat_natCast]
  have hvx := val_natAbs hx
  have hvy := val_natAbs hy
  rw [fq_val ha, Int.natAbs_mul, Int.natAbs_natCast] at hvx
  rw [fq_val hb, Int.natAbs_mul, Int.natAbs_natCast] at hvy
  have hr := ofBin_right (neg := decide (a < 0)) (M := m * 2 ^ (e - min e f).toNat % (k * 2 ^ (f - min e f).toNat)) (g := min e f) (by omega)
  rw [← hm] at hr
  have e1 : (e - min e f).toNat + (min e f + 1074).toNat = (e + 1074).toNat := by omega
  have e2 : (f - min e f).toNat + (min e f + 1074).toNat = (f + 1074).toNat := by omega
  have hW : m * 2 ^ (e - min e f).toNat % (k * 2 ^ (f - min e f).toNat) * 2 ^ (min e f + 1074).toNat = a.natAbs % b.natAbs * 2 ^ 1072 := by
    rw [← Nat.mul_mod_mul_right, Nat.mul_assoc, Nat.mul_assoc, ← Nat.pow_add, ← Nat.pow_add, e1, e2, ← hvx, ← hvy, Nat.mul_mod_mul_right]
  rw [hW] at hr
  by_cases h0 : a.natAbs % b.natAbs = 0
  · refine .inl ⟨?_, h0⟩
    rw [h0] at hr
    exact right_exact (D := 1) (t₀ := 0) (by decide) hr (by rw [V_zero, Nat.zero_mul]) (by rw [V_zero]; exact Nat.zero_le _)
  · refine .inr ⟨?_, h0⟩
    have hlt : a.natAbs % b.natAbs < 2 ^ 53 := Nat.lt_of_le_of_lt (Nat.mod_le _ _) ha
    generalize a.natAbs % b.natAbs = q at *
    refine right_fq (D := 1) (by decide) hr ?_ ?_ ?_
    · split <;> omega
    · apply decide_eq_decide.mpr
      split <;> omega
    · have : (if a < 0 then -(q : Int) else (q : Int)).natAbs = q := by split <;> omega
      rw [this, Nat.one_mul]

theorem isZero_pack0 (s : Bool) : isZero (pack s 0) = true := by cases s <;> decide +kernel
theorem zero_fq : zero false = fq 0 := by decide +kernel
theorem copysign_fq {b : Int} (hb : b.natAbs < 2 ^ 53) (hb0 : 0 < b) : copysign (zero false) (fq b) = fq 0 := by
  obtain ⟨t, ht, he, hv⟩ := fq_spec hb
  have h1 : decide (b < 0) = false := by simp; omega
  have hs : signBit (fq b) = false := by
    rw [he, h1]
    unfold signBit
    have hi : infMag = 2047 * 2 ^ 52 := rfl
    rw [pack_toNat false (by omega)]
    simp
    omega
  unfold copysign
  rw [hs]
  decide +kernel
theorem ceq {a b : Int} (ha : a.natAbs < 2 ^ 53) (hb : b.natAbs < 2 ^ 53) : lt (fq a) (fq b) = decide (a < b) := by
  unfold lt
  rw [cmp_fq ha hb]
  rcases Int.lt_trichotomy a b with h | h | h
  · rw [Int.compare_eq_lt.mpr h]; simp [h]
  · subst h; simp
  · rw [Int.compare_eq_gt.mpr h]
    have : ¬ a < b := by omega
    simp [this]
theorem mod_fq {a b : Int} (ha : a.natAbs < 2 ^ 53) (hb : b.natAbs < 2 ^ 53) (hb0 : 0 < b) : (divmod (fq a) (fq b)).2 = fq (a % b) := by
  have hz : isZero (fq b) = false := isZero_fq hb (by omega)
  have hmod : ∀ x y : UInt64, (divmod x y).2 = (if isZero (fmod x y) then copysign (zero false) y else if lt y (zero false) != lt (fmod x y) (zero false) then add (fmod x y) y else fmod x y) := fun x y => by
    unfold divmod
    simp only
    split
    · rfl
    · split <;> rfl
  rw [hmod]
  have hr0 := Int.emod_nonneg a (show b ≠ 0 by omega)
  have hr1 := Int.emod_lt_of_pos a hb0
  have hab : (a.natAbs % b.natAbs : Nat) = if a < 0 ∧ a % b ≠ 0 then b - a % b else (a % b) := by
    have hbb : (b.natAbs : Int) = b := by omega
    by_cases hn : a < 0
    · have h1 : ((a.natAbs % b.natAbs : Nat) : Int) = (-a) % b := by
        rw [Int.natCast_emod, hbb]; congr 1; omega
      rw [h1, Int.neg_emod]
      split
      · rename_i hd
        have : a % b = 0 := Int.emod_eq_zero_of_dvd hd
        rw [if_neg (by omega), this]
      · rename_i hd
        have : a % b ≠ 0 := fun h => hd (Int.dvd_of_emod_eq_zero h)
        rw [if_pos ⟨hn, this⟩, hbb]
    · rw [if_neg (by omega), Int.natCast_emod, hbb]
      congr 1
      omega
  rcases fmod_fq ha hb hb0 with ⟨h1, h2⟩ | ⟨h1, h2⟩
  · rw [h1, isZero_pack0, if_pos rfl, copysign_fq hb hb0]
    congr 1
    rw [h2] at hab
    split at hab <;> omega
  · generalize hq : a.natAbs % b.natAbs = q at *
    have hlt : q < 2 ^ 53 := by rw [← hq]; exact Nat.lt_of_le_of_lt (Nat.mod_le _ _) ha
    have hqb : (q : Int) < b := by split at hab <;> omega
    have hs : (if a < 0 then -(q : Int) else (q : Int)).natAbs < 2 ^ 53 := by split <;> omega
    rw [h1, isZero_fq hs (by split <;> omega), if_neg (by decide), zero_fq, ceq hb (by decide), ceq hs (by decide)]
    have h3 : decide (b < 0) = false := by simp; omega
    rw [h3, Bool.false_bne]
    by_cases hn : a < 0
    · rw [if_pos hn] at hs ⊢
      rw [if_pos (by simp; omega), fq_add hs hb (by omega)]
      congr 1
      split at hab <;> omega
    · rw [if_neg hn, if_neg (by simp)]
      congr 1
      rw [if_neg (by omega)] at hab
      exact hab
end
section
theorem rs_FO : True := by
  w_top off
  trivial
open PySem PySem.Float64

theorem dec122 : decode 0x405e866666666666 = .fin false 8592023664092774 (-46) := by kernel_rfl
theorem e1070 : ((2 ^ 1072 : Nat) : Int) = ((2 ^ 1070 : Nat) : Int) * 4 := by
  rw [pow_split (b := 1070) (c := 2) (by decide)]; rfl
theorem e1070b : ((2 ^ 1074 : Nat) : Int) = ((2 ^ 1070 : Nat) : Int) * 16 := by
  rw [pow_split (b := 1070) (c := 4) (by decide)]; rfl
theorem val122 : 1953 * ((2 ^ 1070 : Nat) : Int) < val 0x405e866666666666 ∧ val 0x405e866666666666 < 1954 * ((2 ^ 1070 : Nat) : Int) := by
  have e : ((-46 : Int) + 1074).toNat = 1028 := by decide
  rw [val_eq dec122, e]
  unfold sgn
  rw [if_neg (by decide), pow_split (b := 42) (c := 1028) (a := 1070) (by decide), Int.natCast_mul]
  have hP : (0 : Int) < ((2 ^ 1028 : Nat) : Int) := Int.ofNat_lt.mpr (Nat.two_pow_pos _)
  generalize ((2 ^ 1028 : Nat) : Int) = P at *
  have : ((2 ^ 42 : Nat) : Int) = 4398046511104 := by decide
  rw [this]
  omega

theorem sgn_self (Y : Int) : sgn (decide (Y < 0)) Y.natAbs = Y := by
  have := sgn_abs Y 1
  rw [Nat.mul_one, Int.natCast_one, Int.mul_one] at this
  exact this

theorem jul_sub {b : Int} (hb : b.natAbs < 2 ^ 40) : ∃ s m e, decode (sub (ofInt b) 0x405e866666666666) = .fin s m e ∧
    (16 * b - 1954) * ((2 ^ 1070 : Nat) : Int) ≤ val (sub (ofInt b) 0x405e866666666666) ∧ val (sub (ofInt b) 0x405e866666666666) ≤ (16 * b - 1953) * ((2 ^ 1070 : Nat) : Int) := by
  rw [ofInt_fq (by omega)]
  obtain ⟨m, e, hx⟩ := fq_fin (k := 4 * b) (by omega)
  have hr := (sub_right hx dec122).2
  obtain ⟨hv1, hv2⟩ := val122
  rw [fq_val (by omega), e1070] at hr
  have hP : (0 : Int) < ((2 ^ 1070 : Nat) : Int) := Int.ofNat_lt.mpr (Nat.two_pow_pos _)
  have h16 : 4 * b * (((2 ^ 1070 : Nat) : Int) * 4) = 16 * b * ((2 ^ 1070 : Nat) : Int) := by
    generalize ((2 ^ 1070 : Nat) : Int) = P
    rw [Int.mul_comm P 4, ← Int.mul_assoc]
    congr 1
    omega
  rw [h16] at hr
  generalize hc : val 0x405e866666666666 = c at *
  generalize hg : ((2 ^ 1070 : Nat) : Int) = P at *
  have hlo : (16 * b - 1954) * P < 16 * b * P - c := by rw [Int.sub_mul]; omega
  have hhi : 16 * b * P - c < (16 * b - 1953) * P := by rw [Int.sub_mul]; omega
  have hne : 16 * b * P - c ≠ 0 := fun h => by
    rw [h] at hlo hhi
    have h1 : 0 < 16 * b - 1953 := by
      rcases Int.lt_or_le 0 (16 * b - 1953) with h | h
      · exact h
      · have := Int.mul_nonneg (show 0 ≤ -(16 * b - 1953) by omega) (Int.le_of_lt hP)
        rw [Int.neg_mul] at this; omega
    have h2 : 16 * b - 1954 < 0 := by
      rcases Int.lt_or_le (16 * b - 1954) 0 with h | h
      · exact h
      · have := Int.mul_nonneg h (Int.le_of_lt hP); omega
    omega
  have hW : (16 * b * P - c).natAbs ≤ 1 * 2 ^ 1950 := by
    have h1 : (16 * b * P - c).natAbs ≤ 2 ^ 46 * P.natAbs := by
      have hlo2 : -(2 ^ 46) * P ≤ (16 * b - 1954) * P := Int.mul_le_mul_of_nonneg_right (by omega) (Int.le_of_lt hP)
      have hhi2 : (16 * b - 1953) * P ≤ 2 ^ 46 * P := Int.mul_le_mul_of_nonneg_right (by omega) (Int.le_of_lt hP)
      have : ((2 ^ 46 * P.natAbs : Nat) : Int) = 2 ^ 46 * P := by
        rw [Int.natCast_mul]
        have : ((P.natAbs : Nat) : Int) = P := by omega
        rw [this]; rfl
      rw [Int.neg_mul] at hlo2
      generalize hz : 2 ^ 46 * P = z at *
      generalize 2 ^ 46 * P.natAbs = zn at *
      omega
    refine Nat.le_trans h1 ?_
    rw [← hg, Int.natAbs_natCast, ← Nat.pow_add, Nat.one_mul]
    exact Nat.pow_le_pow_right (by decide) (by decide)
  obtain ⟨⟨m', e', hd⟩, ha, hb'⟩ := right_between (by decide) (hr hne) hW 1070 (by decide) (by decide)
  rw [sgn_self, hg, Int.natCast_one] at ha hb'
  refine ⟨_, m', e', hd, ha _ (by omega) (by rw [Int.mul_one]; omega), hb' _ (by omega) (by rw [Int.mul_one]; omega)⟩

theorem valabs : (val (fq 1461)).natAbs = (1461 : Int).natAbs * 2 ^ 1072 := by
  rw [fq_val (by decide), Int.natAbs_mul, Int.natAbs_natCast]
theorem jul_cent {b : Int} (hb : b.natAbs < 2 ^ 40) : isFinite (div (sub (ofInt b) 0x405e866666666666) (fq 1461)) = true ∧
    Flt.toInt floorOf (div (sub (ofInt b) 0x405e866666666666) (fq 1461)) = (4 * b - 489) / 1461 := by
  obtain ⟨s, m, e, hd, hlo, hhi⟩ := jul_sub hb
  obtain ⟨k, f, hy⟩ := fq_fin (k := 1461) (by decide)
  have hv := fq_val (k := 1461) (by decide)
  have hk : k ≠ 0 := fun h => by
    rw [val_eq hy, h, Nat.zero_mul] at hv
    have h2 : (1461 : Int) * ((2 ^ 1072 : Nat) : Int) = 0 := by rw [← hv]; unfold sgn; split <;> rfl
    rcases Int.mul_eq_zero.mp h2 with h | h
    · omega
    · have := pos72; omega
  have hr := div_right hd hy hk
  have hs1 : decide ((1461 : Int) < 0) = false := by decide
  have hval := val_eq hd
  rw [hs1, Bool.bne_false, valabs] at hr
  generalize hx : sub (ofInt b) 0x405e866666666666 = x at *
  have hsg : sgn s ((val x).natAbs * 2 ^ 1074) = val x * ((2 ^ 1074 : Nat) : Int) := by
    rw [val_natAbs hd, hval, ← sgn_mul]
  have hPp : (0 : Int) < ((2 ^ 1070 : Nat) : Int) := Int.ofNat_lt.mpr (Nat.two_pow_pos _)
  have hRp : (0 : Int) < ((2 ^ 1054 : Nat) : Int) := Int.ofNat_lt.mpr (Nat.two_pow_pos _)
  have hq := Int.mul_ediv_add_emod (4 * b - 489) 1461
  have hr0 := Int.emod_nonneg (4 * b - 489) (show (1461 : Int) ≠ 0 by decide)
  have hr1 := Int.emod_lt_of_pos (4 * b - 489) (show (0 : Int) < 1461 by decide)
  generalize hkk : (4 * b - 489) / 1461 = q at *
  generalize (4 * b - 489) % 1461 = t at *
  have eD : ((2 ^ 1054 : Nat) : Int) * (((1461 : Int).natAbs * 2 ^ 1072 : Nat) : Int) = 5844 * ((2 ^ 1070 : Nat) : Int) * ((2 ^ 1054 : Nat) : Int) := by
    rw [Int.natCast_mul, e1070]
    generalize ((2 ^ 1054 : Nat) : Int) = R
    generalize ((2 ^ 1070 : Nat) : Int) = P
    show R * (1461 * (P * 4)) = 5844 * P * R
    rw [Int.mul_comm P 4, ← Int.mul_assoc 1461 4 P, Int.mul_comm R]
    rfl
  have hW : (val x).natAbs * 2 ^ 1074 ≤ (1461 : Int).natAbs * 2 ^ 1072 * 2 ^ 1950 := by
    have h1 : (val x).natAbs ≤ 2 ^ 46 * 2 ^ 1070 := by
      have hlo2 : -(2 ^ 46) * ((2 ^ 1070 : Nat) : Int) ≤ (16 * b - 1954) * ((2 ^ 1070 : Nat) : Int) := Int.mul_le_mul_of_nonneg_right (by omega) (Int.le_of_lt hPp)
      have hhi2 : (16 * b - 1953) * ((2 ^ 1070 : Nat) : Int) ≤ 2 ^ 46 * ((2 ^ 1070 : Nat) : Int) := Int.mul_le_mul_of_nonneg_right (by omega) (Int.le_of_lt hPp)
      have : ((2 ^ 46 * 2 ^ 1070 : Nat) : Int) = 2 ^ 46 * ((2 ^ 1070 : Nat) : Int) := by rw [Int.natCast_mul]; rfl
      rw [Int.neg_mul] at hlo2
      generalize 2 ^ 46 * ((2 ^ 1070 : Nat) : Int) = z at *
      generalize 2 ^ 46 * 2 ^ 1070 = zn at *
      omega
    calc (val x).natAbs * 2 ^ 1074 ≤ 2 ^ 46 * 2 ^ 1070 * 2 ^ 1074 := Nat.mul_le_mul_right _ h1
      _ = 2 ^ 2190 := by rw [← Nat.pow_add, ← Nat.pow_add]
      _ ≤ 2 ^ 3022 := Nat.pow_le_pow_right (by decide) (by decide)
      _ = 2 ^ 1072 * 2 ^ 1950 := by rw [← Nat.pow_add]
      _ ≤ _ := Nat.mul_le_mul_right _ (Nat.le_mul_of_pos_left _ (by decide))
  have key := right_floor (k := q) (Nat.mul_pos (by decide) (Nat.two_pow_pos _)) hr hW (by omega) ?_ ?_
  · exact ⟨key.1, key.2.1⟩
  · rw [hsg, eD, e1054]
    generalize ((2 ^ 1054 : Nat) : Int) = R at *
    generalize ((2 ^ 1070 : Nat) : Int) = P at *
    have h1 : q * 1048576 * (5844 * P * R) = (q * (5844 * P)) * (R * 1048576) := by ac_rfl
    rw [h1]
    refine Int.mul_le_mul_of_nonneg_right ?_ (by omega)
    have h2 : q * (5844 * P) = (5844 * q) * P := by ac_rfl
    rw [h2]
    have h3 : (5844 * q) * P ≤ (16 * b - 1954) * P := Int.mul_le_mul_of_nonneg_right (by omega) (Int.le_of_lt hPp)
    omega
  · rw [hsg, eD, e1054]
    generalize ((2 ^ 1054 : Nat) : Int) = R at *
    generalize ((2 ^ 1070 : Nat) : Int) = P at *
    have h1 : ((q + 1) * 1048576 - 1) * (5844 * P * R) = (((q + 1) * 1048576 - 1) * 5844 * P) * R := by ac_rfl
    have h2 : val x * (R * 1048576) = (val x * 1048576) * R := by ac_rfl
    rw [h1, h2]
    refine Int.mul_le_mul_of_nonneg_right ?_ (by omega)
    have h3 : ((16 * b - 1953) * 1048576) * P ≤ ((q + 1) * 1048576 - 1) * 5844 * P := Int.mul_le_mul_of_nonneg_right (by omega) (Int.le_of_lt hPp)
    have h4 : ((16 * b - 1953) * 1048576) * P = ((16 * b - 1953) * P) * 1048576 := by ac_rfl
    omega

theorem jul_month_dec : ∀ n < 512, (isFinite (div (ofInt (n : Nat)) 0x403e99a027525461) && Flt.toInt floorOf (div (ofInt (n : Nat)) 0x403e99a027525461) == 10000 * ((n : Nat) : Int) / 306001) = true := by decide +kernel
theorem jul_month {n : Int} (h0 : 0 ≤ n) (h1 : n < 512) : isFinite (div (ofInt n) 0x403e99a027525461) = true ∧ Flt.toInt floorOf (div (ofInt n) 0x403e99a027525461) = 10000 * n / 306001 := by
  have := jul_month_dec n.toNat (by omega)
  have e : ((n.toNat : Nat) : Int) = n := by omega
  rw [e, Bool.and_eq_true, beq_iff_eq] at this
  exact this
theorem jul_cum_dec : ∀ n < 32, (isFinite (mul 0x403e99a027525461 (ofInt (n : Nat))) && Flt.toInt floorOf (mul 0x403e99a027525461 (ofInt (n : Nat))) == 306001 * ((n : Nat) : Int) / 10000) = true := by decide +kernel
theorem jul_cum {n : Int} (h0 : 0 ≤ n) (h1 : n < 32) : isFinite (mul 0x403e99a027525461 (ofInt n)) = true ∧ Flt.toInt floorOf (mul 0x403e99a027525461 (ofInt n)) = 306001 * n / 10000 := by
  have := jul_cum_dec n.toNat (by omega)
  have e : ((n.toNat : Nat) : Int) = n := by omega
  rw [e, Bool.and_eq_true, beq_iff_eq] at this
  exact this
theorem c_365 : 0x4076d40000000000 = fq 1461 := by decide +kernel
theorem c_half : 0x3fe0000000000000 = fq 2 := by decide +kernel
theorem c_29 : 0x403d800000000000 = fq 118 := by decide +kernel
theorem c_1524 : 0x4097d20000000000 = fq 6098 := by decide +kernel
theorem c_greg : 4700144277945057280 = fq 6885702 := by decide +kernel
theorem c_copt : 4700589253736792064 = fq 7300118 := by decide +kernel
theorem c_isl : 4701119295650791424 = fq 7793758 := by decide +kernel
end
section
theorem rs_FW : True := by
  w_top off
  trivial
open PySem PySem.W PySem.Calls PyProof.Rows PySem.Flt

noncomputable abbrev lo : List Str := looseW hd.view_39
      [Str.ofString "legal_date_gregorian", Str.ofString "to_jd_gregorian", Str.ofString "from_jd_gregorian",
        Str.ofString "to_jd_coptic", Str.ofString "from_jd_coptic", Str.ofString "to_jd_indian_civil",
        Str.ofString "from_jd_indian_civil", Str.ofString "to_jd_islamic", Str.ofString "from_jd_islamic",
        Str.ofString "to_jd_iso", Str.ofString "from_jd_iso", Str.ofString "legal_date_julian",
        Str.ofString "from_jd_julian", Str.ofString "to_jd_julian", Str.ofString "to_jd_ordinal",
        Str.ofString "from_jd_ordinal"]
/-- the counter of tokens may be any: only the state's own is freed, so no term is searched -/
theorem gentok {M : Model} {A : Around} {α : Type} {m : Sem α} {Q : α → Shared → Prop} {E : Value → Shared → Prop} {h : Heap} {g : Array GenState} {d : Drawn} {o : OsState} {X : Nat} (H : ∀ tk, wpAny M A m Q E ⟨h, g, d, tk, o⟩) : wpAny M A m Q E ⟨h, g, d, X, o⟩ := H X
section
variable {M : Model} {A : Around} {E : Value → Shared → Prop} {s : Shared} {K : Frag} {h₀ : Heap} {L a : Addr} {m mg mb : Str → Option Value} {cn : Str} {cs : Scope} {ccd : Value} {cl : List (Str × Addr)} {p : Program} {loose : List Str} {mean : ExcName → Option Value} {x : Str} {pos : Pos} {v : Value} {Q : Value → Shared → Prop}
/-- a name read: of the block, of the module, built in (one line a kind, so that no line is tried in vain) -/
theorem nL (F : Fr h₀ L s.heap m) (hx : (envX cn cs L a ccd cl).kindOf x = some .local) (hk : cs.kind = .function) (hd : (x == ("__debug__" : Str)) = false) (hv : m x = some v) (h : Q v s) :
    Held (wpAny M A (eval (.Name x pos) (envX cn cs L a ccd cl)) Q E s) := ⟨nameX_L F hv h hk hx hd⟩
theorem nK (F : Fr h₀ L s.heap m) (X : K.In h₀) (T : TopRead p loose mg mb h₀) (hx : (envX cn cs L a ccd cl).kindOf x = some .globalImplicit) (hk : cs.kind = .function) (hd : (x == ("__debug__" : Str)) = false) (e : nsIn K mainGlobals x = some (some v)) (h : Q v s) :
    Held (wpAny M A (eval (.Name x pos) (envX cn cs L a ccd cl)) Q E s) := ⟨nameX_K F X T e h hk hx hd⟩
theorem nB (F : Fr h₀ L s.heap m) (X : K.In h₀) (T : TopRead p loose mg mb h₀) (hx : (envX cn cs L a ccd cl).kindOf x = some .globalImplicit) (hk : cs.kind = .function) (hd : (x == ("__debug__" : Str)) = false) (e : nsIn K mainGlobals x = some none) (hv : bootBuiltins x = some v) (hn : x ≠ "__name__") (h : Q v s) :
    Held (wpAny M A (eval (.Name x pos) (envX cn cs L a ccd cl)) Q E s) := ⟨nameX_B F X T e hv hn h hk hx hd⟩
variable {f : Value} {e₀ : Expr} {rest : List Expr} {first : List Value} {env : Env}
theorem cwK (X : K.In h₀) (hk : keepIn K f = true) (h : wpAny M A (spliced (backTo pos (starEach (e₀ :: rest) env))) (fun vs s₁ => K.In s₁.heap ∧ wpAny M A (call f (first ++ vs)) Q E s₁) E s)
    (he : starEach (e₀ :: rest) env = (false, eval e₀ env) :: starEach rest env) (hp : (backTo pos (starEach rest env)).any (·.1) = false) :
    Held (wpAny M A (callWith pos f first (backTo pos (starEach (e₀ :: rest) env)) []) Q E s) := ⟨callWith_K X hk h he hp⟩
end
/-- what a def, called, gives back: x of the kind mk with P x -/
structure Con {α : Type} (w : World) (mean : ExcName → Option Value) (mg mb : Str → Option Value) (f : Addr) (k : Nat) (vs : List Value) (pre : Prop) (mk : α → Tok → Value) (P : α → Prop) : Prop where mk ::
  out : ∀ (dp un : Nat) (gd : Option (List Code)) (cn : Str) (cs : Scope) (a : Addr) (ccd : Value) (cl : List (Str × Addr)) (outer : List Env) (A₀ : Around) (base h₀ : Heap) (L : Addr) (m : Str → Option Value) (news : List (Addr × Obj)) (s : Shared) (Q E : Value → Shared → Prop),
    Below A₀ base outer h₀ → Fr h₀ L s.heap m → (hd.heap_39 w.params).In h₀ → News h₀ L s.heap news → Top hd.view_39 lo mean mg mb h₀ → cs.kind = .function →
    dp + k < recursionLimit → un + 8 * k < cLine → pre →
    (∀ (x : α) (t : Tok) (h' : Heap) (tk' : Nat), P x → Fr h₀ L h' m → News h₀ L h' news → Q (mk x t) { s with heap := h', toks := tk' }) →
    wpAny (model Challenge.rw_ad5030_01.row.prog w) (ktrTop dp un gd cn cs L a ccd cl outer) (call (.ref f) vs) Q E s
theorem Con.use {α : Type} {w : World} {mean : ExcName → Option Value} {mg mb : Str → Option Value} {f : Addr} {k : Nat} {vs : List Value} {pre : Prop} {mk : α → Tok → Value} {P : α → Prop}
    (C : Con w mean mg mb f k vs pre mk P)
    {dp un : Nat} {gd : Option (List Code)} {cn : Str} {cs : Scope} {a : Addr} {ccd : Value} {cl : List (Str × Addr)} {outer : List Env} {A₀ : Around} {base h₀ : Heap} {L : Addr} {m : Str → Option Value} {news : List (Addr × Obj)} {s : Shared} {Q E : Value → Shared → Prop}
    (B : Below A₀ base outer h₀) (F : Fr h₀ L s.heap m) (X : (hd.heap_39 w.params).In h₀) (N : News h₀ L s.heap news) (T : Top hd.view_39 lo mean mg mb h₀) (hk : cs.kind = .function)
    (hd : dp + k < recursionLimit) (hu : un + 8 * k < cLine) (hp : pre)
    (ret : ∀ (x : α) (t : Tok) (h' : Heap) (tk' : Nat), P x → Fr h₀ L h' m → News h₀ L h' news → Q (mk x t) { s with heap := h', toks := tk' }) :
    wpAny (model Challenge.rw_ad5030_01.row.prog w) (ktrTop dp un gd cn cs L a ccd cl outer) (call (.ref f) vs) Q E s :=
  C.out dp un gd cn cs a ccd cl outer A₀ base h₀ L m news s Q E B F X N T hk hd hu hp ret

/-- a def that gives back three ints in a tuple (or an object of the class cl) -/
structure ConT (w : World) (mean : ExcName → Option Value) (mg mb : Str → Option Value) (f : Addr) (k : Nat) (vs : List Value) (pre : Prop) (cl : Value) (P : Int → Int → Int → Prop) : Prop where mk ::
  out : ∀ (dp un : Nat) (gd : Option (List Code)) (cn : Str) (cs : Scope) (a : Addr) (ccd : Value) (cl' : List (Str × Addr)) (outer : List Env) (A₀ : Around) (base h₀ : Heap) (L : Addr) (m : Str → Option Value) (news : List (Addr × Obj)) (s : Shared) (Q E : Value → Shared → Prop),
    Below A₀ base outer h₀ → Fr h₀ L s.heap m → (hd.heap_39 w.params).In h₀ → News h₀ L s.heap news → Top hd.view_39 lo mean mg mb h₀ → cs.kind = .function →
    dp + k < recursionLimit → un + 8 * k < cLine → pre →
    (∀ (y mo d : Int) (t1 t2 t3 : Tok) (D : Addr) (h' : Heap) (tk' : Nat), P y mo d → Fr h₀ L h' m → News h₀ L h' ((D, ({ cls := cl, data := .seq #[.int y t1, .int mo t2, .int d t3] } : Obj)) :: news) → AllLt D news → Q (.ref D) { s with heap := h', toks := tk' }) →
    wpAny (model Challenge.rw_ad5030_01.row.prog w) (ktrTop dp un gd cn cs L a ccd cl' outer) (call (.ref f) vs) Q E s
theorem ConT.use {w : World} {mean : ExcName → Option Value} {mg mb : Str → Option Value} {f : Addr} {k : Nat} {vs : List Value} {pre : Prop} {cl : Value} {P : Int → Int → Int → Prop}
    (C : ConT w mean mg mb f k vs pre cl P)
    {dp un : Nat} {gd : Option (List Code)} {cn : Str} {cs : Scope} {a : Addr} {ccd : Value} {cl' : List (Str × Addr)} {outer : List Env} {A₀ : Around} {base h₀ : Heap} {L : Addr} {m : Str → Option Value} {news : List (Addr × Obj)} {s : Shared} {Q E : Value → Shared → Prop}
    (B : Below A₀ base outer h₀) (F : Fr h₀ L s.heap m) (X : (hd.heap_39 w.params).In h₀) (N : News h₀ L s.heap news) (T : Top hd.view_39 lo mean mg mb h₀) (hk : cs.kind = .function)
    (hd : dp + k < recursionLimit) (hu : un + 8 * k < cLine) (hp : pre)
    (ret : ∀ (y mo d : Int) (t1 t2 t3 : Tok) (D : Addr) (h' : Heap) (tk' : Nat), P y mo d → Fr h₀ L h' m → News h₀ L h' ((D, ({ cls := cl, data := .seq #[.int y t1, .int mo t2, .int d t3] } : Obj)) :: news) → AllLt D news → Q (.ref D) { s with heap := h', toks := tk' }) :
    wpAny (model Challenge.rw_ad5030_01.row.prog w) (ktrTop dp un gd cn cs L a ccd cl' outer) (call (.ref f) vs) Q E s :=
  C.out dp un gd cn cs a ccd cl' outer A₀ base h₀ L m news s Q E B F X N T hk hd hu hp ret
/-- a def that gives back two ints in a tuple (or an object of the class cl) -/
structure ConP (w : World) (mean : ExcName → Option Value) (mg mb : Str → Option Value) (f : Addr) (k : Nat) (vs : List Value) (pre : Prop) (cl : Value) (P : Int → Int → Prop) : Prop where mk ::
  out : ∀ (dp un : Nat) (gd : Option (List Code)) (cn : Str) (cs : Scope) (a : Addr) (ccd : Value) (cl' : List (Str × Addr)) (outer : List Env) (A₀ : Around) (base h₀ : Heap) (L : Addr) (m : Str → Option Value) (news : List (Addr × Obj)) (s : Shared) (Q E : Value → Shared → Prop),
    Below A₀ base outer h₀ → Fr h₀ L s.heap m → (hd.heap_39 w.params).In h₀ → News h₀ L s.heap news → Top hd.view_39 lo mean mg mb h₀ → cs.kind = .function →
    dp + k < recursionLimit → un + 8 * k < cLine → pre →
    (∀ (y d : Int) (t1 t3 : Tok) (D : Addr) (h' : Heap) (tk' : Nat), P y d → Fr h₀ L h' m → News h₀ L h' ((D, ({ cls := cl, data := .seq #[.int y t1, .int d t3] } : Obj)) :: news) → AllLt D news → Q (.ref D) { s with heap := h', toks := tk' }) →
    wpAny (model Challenge.rw_ad5030_01.row.prog w) (ktrTop dp un gd cn cs L a ccd cl' outer) (call (.ref f) vs) Q E s
theorem ConP.use {w : World} {mean : ExcName → Option Value} {mg mb : Str → Option Value} {f : Addr} {k : Nat} {vs : List Value} {pre : Prop} {cl : Value} {P : Int → Int → Prop}
    (C : ConP w mean mg mb f k vs pre cl P)
    {dp un : Nat} {gd : Option (List Code)} {cn : Str} {cs : Scope} {a : Addr} {ccd : Value} {cl' : List (Str × Addr)} {outer : List Env} {A₀ : Around} {base h₀ : Heap} {L : Addr} {m : Str → Option Value} {news : List (Addr × Obj)} {s : Shared} {Q E : Value → Shared → Prop}
    (B : Below A₀ base outer h₀) (F : Fr h₀ L s.heap m) (X : (hd.heap_39 w.params).In h₀) (N : News h₀ L s.heap news) (T : Top hd.view_39 lo mean mg mb h₀) (hk : cs.kind = .function)
    (hd : dp + k < recursionLimit) (hu : un + 8 * k < cLine) (hp : pre)
    (ret : ∀ (y d : Int) (t1 t3 : Tok) (D : Addr) (h' : Heap) (tk' : Nat), P y d → Fr h₀ L h' m → News h₀ L h' ((D, ({ cls := cl, data := .seq #[.int y t1, .int d t3] } : Obj)) :: news) → AllLt D news → Q (.ref D) { s with heap := h', toks := tk' }) :
    wpAny (model Challenge.rw_ad5030_01.row.prog w) (ktrTop dp un gd cn cs L a ccd cl' outer) (call (.ref f) vs) Q E s :=
  C.out dp un gd cn cs a ccd cl' outer A₀ base h₀ L m news s Q E B F X N T hk hd hu hp ret
section
variable {α : Type} {h₀ h' : Heap} {L : Addr} {m : Str → Option Value} {news news' : List (Addr × Obj)} {s : Shared} {Q : Value → Shared → Prop} {t : Tok} {tk' : Nat}
theorem con_ret {mk : α → Tok → Value} {P : α → Prop} (hret : ∀ (x : α) (t : Tok) (h' : Heap) (tk' : Nat), P x → Fr h₀ L h' m → News h₀ L h' news → Q (mk x t) { s with heap := h', toks := tk' })
    {x : α} (F : Fr h₀ L h' m) (N : News h₀ L h' news') (hs : ∀ p ∈ news, p ∈ news') (p : P x) : Q (mk x t) { s with heap := h', toks := tk' } :=
  hret x t h' tk' p F (cb_drop N hs)
theorem con_retF {P : Int → Prop} (hret : ∀ (x : Int) (t : Tok) (h' : Heap) (tk' : Nat), P x → Fr h₀ L h' m → News h₀ L h' news → Q (.float (fq x) t) { s with heap := h', toks := tk' })
    {x : Int} (F : Fr h₀ L h' m) (N : News h₀ L h' news') (hs : ∀ p ∈ news, p ∈ news') (p : P x) : Q (.float (fq x) t) { s with heap := h', toks := tk' } := hret x t h' tk' p F (cb_drop N hs)
theorem con_retI {P : Int → Prop} (hret : ∀ (x : Int) (t : Tok) (h' : Heap) (tk' : Nat), P x → Fr h₀ L h' m → News h₀ L h' news → Q (.int x t) { s with heap := h', toks := tk' })
    {x : Int} (F : Fr h₀ L h' m) (N : News h₀ L h' news') (hs : ∀ p ∈ news, p ∈ news') (p : P x) : Q (.int x t) { s with heap := h', toks := tk' } := hret x t h' tk' p F (cb_drop N hs)
theorem con_retT {cl : Value} {P : Int → Int → Int → Prop} {D : Addr}
    (hret : ∀ (y mo d : Int) (t1 t2 t3 : Tok) (D : Addr) (h' : Heap) (tk' : Nat), P y mo d → Fr h₀ L h' m → News h₀ L h' ((D, ({ cls := cl, data := .seq #[.int y t1, .int mo t2, .int d t3] } : Obj)) :: news) → AllLt D news → Q (.ref D) { s with heap := h', toks := tk' })
    {y mo d : Int} {t1 t2 t3 : Tok} (F : Fr h₀ L h' m) (N : News h₀ L h' news') (hm : (D, ({ cls := cl, data := .seq #[.int y t1, .int mo t2, .int d t3] } : Obj)) ∈ news') (hs : ∀ p ∈ news, p ∈ news') (hl : AllLt D news) (p : P y mo d) : Q (.ref D) { s with heap := h', toks := tk' } :=
  hret y mo d t1 t2 t3 D h' tk' p F (fun q hq => (List.mem_cons.mp hq).elim (fun e => e ▸ N _ hm) fun hq => N q (hs q hq)) hl
theorem con_retP {cl : Value} {P : Int → Int → Prop} {D : Addr}
    (hret : ∀ (y d : Int) (t1 t3 : Tok) (D : Addr) (h' : Heap) (tk' : Nat), P y d → Fr h₀ L h' m → News h₀ L h' ((D, ({ cls := cl, data := .seq #[.int y t1, .int d t3] } : Obj)) :: news) → AllLt D news → Q (.ref D) { s with heap := h', toks := tk' })
    {y d : Int} {t1 t3 : Tok} (F : Fr h₀ L h' m) (N : News h₀ L h' news') (hm : (D, ({ cls := cl, data := .seq #[.int y t1, .int d t3] } : Obj)) ∈ news') (hs : ∀ p ∈ news, p ∈ news') (hl : AllLt D news) (p : P y d) : Q (.ref D) { s with heap := h', toks := tk' } :=
  hret y d t1 t3 D h' tk' p F (fun q hq => (List.mem_cons.mp hq).elim (fun e => e ▸ N _ hm) fun hq => N q (hs q hq)) hl
theorem con_retB {P : Bool → Prop} (hret : ∀ (x : Bool) (_ : Tok) (h' : Heap) (tk' : Nat), P x → Fr h₀ L h' m → News h₀ L h' news → Q (.bool x) { s with heap := h', toks := tk' })
    {x : Bool} (F : Fr h₀ L h' m) (N : News h₀ L h' news') (hs : ∀ p ∈ news, p ∈ news') (p1 : x = true → P true) (p0 : x = false → P false) : Q (.bool x) { s with heap := h', toks := tk' } :=
  hret x 0 h' tk' (by cases x; exact p0 rfl; exact p1 rfl) F (cb_drop N hs)
end

/-- the walk waits here -/
def Stop (P : Prop) : Prop := P
theorem stop_if {M : Model} {A : Around} {E : Value → Shared → Prop} {s : Shared} {env : Env} {a : Expr} {b c : List Stmt} {d : Pos} {Q : Flow → Shared → Prop} (h : Stop (wpAny M A (exec (.If a b c d) env) Q E s)) : wpAny M A (exec (.If a b c d) env) Q E s := h
theorem stop_go {P : Prop} (h : P) : Stop P := h
/-- the ways of an if meet: the one name x holds an int with P -/
def JV (x : Str) (P : Int → Prop) (h₀ : Heap) (L : Addr) (m : Str → Option Value) (news : List (Addr × Obj)) (s : Shared) (f : Flow) (s' : Shared) : Prop :=
  f = .next ∧ ∃ (r : Int) (t : Tok) (h : Heap) (tk : Nat), s' = { s with heap := h, toks := tk } ∧ P r ∧ Fr h₀ L h (fun y => if y = x then some (.int r t) else m y) ∧ News h₀ L h news
theorem jv_set {x : Str} {P : Int → Prop} {h₀ h : Heap} {L : Addr} {m : Str → Option Value} {news news' : List (Addr × Obj)} {s : Shared} {r : Int} {t : Tok} {tk : Nat} (F : Fr h₀ L h (fun y => if y = x then some (.int r t) else m y)) (N : News h₀ L h news') (hs : ∀ p ∈ news, p ∈ news') (p : P r) :
    JV x P h₀ L m news s .next { s with heap := h, toks := tk } := ⟨rfl, r, t, h, tk, rfl, p, F, cb_drop N hs⟩
theorem jv_keep {x : Str} {P : Int → Prop} {h₀ h : Heap} {L : Addr} {m : Str → Option Value} {news news' : List (Addr × Obj)} {s : Shared} {r : Int} {t : Tok} {tk : Nat} (F : Fr h₀ L h m) (hx : m x = some (.int r t)) (N : News h₀ L h news') (hs : ∀ p ∈ news, p ∈ news') (p : P r) :
    JV x P h₀ L m news s .next { s with heap := h, toks := tk } := by
  refine ⟨rfl, r, t, h, tk, rfl, p, ?_, cb_drop N hs⟩
  have e : (fun y => if y = x then some (Value.int r t) else m y) = m := by
    funext y
    by_cases hy : y = x
    · rw [if_pos hy, hy, hx]
    · rw [if_neg hy]
  rw [e]
  exact F
theorem join_if {M : Model} {A : Around} {E : Value → Shared → Prop} {s : Shared} {env : Env} {st : Stmt} {Q : Flow → Shared → Prop} (x : Str) (P : Int → Prop) {h₀ : Heap} {L : Addr} {m : Str → Option Value} {news : List (Addr × Obj)} (_F : Fr h₀ L s.heap m) (_N : News h₀ L s.heap news)
    (hs : wpAny M A (exec st env) (fun f s' => JV x P h₀ L m news s f s') E s)
    (hk : ∀ (r : Int) (t : Tok) (h : Heap) (tk : Nat), P r → Fr h₀ L h (fun y => if y = x then some (.int r t) else m y) → News h₀ L h news → Q .next { s with heap := h, toks := tk }) : wpAny M A (exec st env) Q E s := by
  refine wpAny_mono hs (fun f s' hj => ?_) fun _ _ x => x
  obtain ⟨rfl, r, t, h, tk, rfl, p, F, N⟩ := hj
  exact hk r t h tk p F N

section
variable {prog : Program} {w : World} {A : Around} {E : Value → Shared → Prop} {s : Shared} {t u : Tok} {Q : Value → Shared → Prop} {x y : UInt64} {a b n : Int}
abbrev Sm (a : Int) : Prop := a.natAbs < 2 ^ 51
theorem Sm53 (h : Sm a) : a.natAbs < 2 ^ 53 := by unfold Sm at h; omega
theorem Sm4 (h : n.natAbs < 2 ^ 49) : (4 * n).natAbs < 2 ^ 53 := by omega
theorem fits49 {P : Nat} (hP : 2 ^ 49 ≤ P) (h : n.natAbs < 2 ^ 49) : n.natAbs < P := Nat.lt_of_lt_of_le h hP
theorem p49 : 2 ^ 49 ≤ 2 ^ 1023 := Nat.pow_le_pow_right (by decide) (by decide)

abbrev AsF (Q : Value → Shared → Prop) (s : Shared) (e : Int) : Prop := ∀ c : Int, c = e → Q (.float (fq c) s.toks) { s with toks := s.toks + 1 }
abbrev AsI (Q : Value → Shared → Prop) (s : Shared) (e : Int) : Prop := ∀ c : Int, c = e → Q (.int c s.toks) { s with toks := s.toks + 1 }

theorem q_add (hx : x = fq a) (hy : y = fq b) (ha : Sm a) (hb : Sm b) (h : AsF Q s (a + b)) : wpAny (model prog w) A (binaryOp .Add (.float x t) (.float y u)) Q E s := by
  subst hx hy
  refine @Held.out _ (add_floath ?_)
  rw [fq_add (Sm53 ha) (Sm53 hb) (by unfold Sm at *; omega)]
  exact h _ rfl
theorem q_iadd (hx : x = fq a) (hy : y = fq b) (ha : Sm a) (hb : Sm b) (h : AsF Q s (a + b)) : wpAny (model prog w) A (inplaceOp .Add (.float x t) (.float y u)) Q E s := by
  subst hx hy
  refine @Held.out _ (iadd_floath ?_)
  rw [fq_add (Sm53 ha) (Sm53 hb) (by unfold Sm at *; omega)]
  exact h _ rfl
theorem q_sub (hx : x = fq a) (hy : y = fq b) (ha : Sm a) (hb : Sm b) (h : AsF Q s (a - b)) : wpAny (model prog w) A (binaryOp .Sub (.float x t) (.float y u)) Q E s := by
  subst hx hy
  refine @Held.out _ (sub_floath ?_)
  rw [fq_sub (Sm53 ha) (Sm53 hb) (by unfold Sm at *; omega)]
  exact h _ rfl
theorem q_add_fi (hx : x = fq a) (ha : Sm a) (hn : n.natAbs < 2 ^ 49) (h : AsF Q s (a + 4 * n)) : wpAny (model prog w) A (binaryOp .Add (.float x t) (.int n u)) Q E s := by
  subst hx
  refine @Held.out _ (add_fi_fitsh (fits49 p49 hn) ?_)
  rw [ofInt_fq (Sm4 hn), fq_add (Sm53 ha) (Sm4 hn) (by unfold Sm at *; omega)]
  exact h _ rfl
theorem q_add_if (hx : x = fq a) (ha : Sm a) (hn : n.natAbs < 2 ^ 49) (h : AsF Q s (4 * n + a)) : wpAny (model prog w) A (binaryOp .Add (.int n u) (.float x t)) Q E s := by
  subst hx
  refine @Held.out _ (add_if_fitsh (fits49 p49 hn) ?_)
  rw [ofInt_fq (Sm4 hn), fq_add (Sm4 hn) (Sm53 ha) (by unfold Sm at *; omega)]
  exact h _ rfl
theorem q_sub_fi (hx : x = fq a) (ha : Sm a) (hn : n.natAbs < 2 ^ 49) (h : AsF Q s (a - 4 * n)) : wpAny (model prog w) A (binaryOp .Sub (.float x t) (.int n u)) Q E s := by
  subst hx
  refine @Held.out _ (sub_fi_fitsh (fits49 p49 hn) ?_)
  rw [ofInt_fq (Sm4 hn), fq_sub (Sm53 ha) (Sm4 hn) (by unfold Sm at *; omega)]
  exact h _ rfl
theorem q_sub_if (hx : x = fq a) (ha : Sm a) (hn : n.natAbs < 2 ^ 49) (h : AsF Q s (4 * n - a)) : wpAny (model prog w) A (binaryOp .Sub (.int n u) (.float x t)) Q E s := by
  subst hx
  refine @Held.out _ (sub_if_fitsh (fits49 p49 hn) ?_)
  rw [ofInt_fq (Sm4 hn), fq_sub (Sm4 hn) (Sm53 ha) (by unfold Sm at *; omega)]
  exact h _ rfl
theorem notOver (hn : n.natAbs < 2 ^ 49) : ¬ Over n := fun h => Float64.ofInt_fits (fits49 p49 hn) (inf_of_over h)
theorem q_iadd_fi (hA : A.handled = none) (hx : x = fq a) (ha : Sm a) (hn : n.natAbs < 2 ^ 49) (h : AsF Q s (a + 4 * n)) : wpAny (model prog w) A (inplaceOp .Add (.float x t) (.int n u)) Q E s := by
  subst hx
  refine @Held.out _ (iadd_fih hA (fun hq => absurd hq (notOver hn)) fun _ => ?_)
  rw [ofInt_fq (Sm4 hn), fq_add (Sm53 ha) (Sm4 hn) (by unfold Sm at *; omega)]
  exact h _ rfl
theorem q_iadd_if (hA : A.handled = none) (hx : x = fq a) (ha : Sm a) (hn : n.natAbs < 2 ^ 49) (h : AsF Q s (4 * n + a)) : wpAny (model prog w) A (inplaceOp .Add (.int n u) (.float x t)) Q E s := by
  subst hx
  refine @Held.out _ (iadd_ifh hA (fun hq => absurd hq (notOver hn)) fun _ => ?_)
  rw [ofInt_fq (Sm4 hn), fq_add (Sm4 hn) (Sm53 ha) (by unfold Sm at *; omega)]
  exact h _ rfl
theorem q_isub_fi (hA : A.handled = none) (hx : x = fq a) (ha : Sm a) (hn : n.natAbs < 2 ^ 49) (h : AsF Q s (a - 4 * n)) : wpAny (model prog w) A (inplaceOp .Sub (.float x t) (.int n u)) Q E s := by
  subst hx
  refine @Held.out _ (isub_fih hA (fun hq => absurd hq (notOver hn)) fun _ => ?_)
  rw [ofInt_fq (Sm4 hn), fq_sub (Sm53 ha) (Sm4 hn) (by unfold Sm at *; omega)]
  exact h _ rfl
/-- an int on the right: 12 * f, 365.25 * c, 29.5 * m: the product of the quarters is given -/
theorem q_mul_fi (hx : x = fq a) (ha0 : 0 < a) (ha : a < 1048576) (hn : n.natAbs < 2 ^ 31) (h : AsF Q s (a * n)) : wpAny (model prog w) A (binaryOp .Mult (.float x t) (.int n u)) Q E s := by
  subst hx
  refine @Held.out _ (mul_fi_fitsh (fits49 p49 (by omega)) ?_)
  have hb : (a * n).natAbs < 2 ^ 53 := by
    rw [Int.natAbs_mul]
    calc a.natAbs * n.natAbs ≤ 1048576 * n.natAbs := Nat.mul_le_mul_right _ (by omega)
      _ < 2 ^ 53 := by omega
  rw [ofInt_fq (by omega), fq_mul (c := a * n) ha0 (by omega) (by omega) (by rw [Int.mul_left_comm]) hb]
  exact h _ rfl
theorem q_mul_fp (hx : x = fq a) (ha : a.natAbs < 2 ^ 40) (hn0 : 0 < n) (hn : n < 4096) (h : AsF Q s (a * n)) : wpAny (model prog w) A (binaryOp .Mult (.float x t) (.int n u)) Q E s := by
  subst hx
  refine @Held.out _ (mul_fi_fitsh (fits49 p49 (by omega)) ?_)
  have hb : (a * n).natAbs < 2 ^ 53 := by
    rw [Int.natAbs_mul]
    calc a.natAbs * n.natAbs ≤ a.natAbs * 4096 := Nat.mul_le_mul_left _ (by omega)
      _ < 2 ^ 53 := by omega
  rw [ofInt_fq (by omega), fq_mul_r (c := a * n) (by omega) (by omega) (by omega) (by rw [Int.mul_left_comm]) hb]
  exact h _ rfl
theorem q_mul_pf (hx : x = fq a) (ha : a.natAbs < 2 ^ 40) (hn0 : 0 < n) (hn : n < 4096) (h : AsF Q s (n * a)) : wpAny (model prog w) A (binaryOp .Mult (.int n u) (.float x t)) Q E s := by
  subst hx
  refine @Held.out _ (mul_if_fitsh (fits49 p49 (by omega)) ?_)
  have hb : (n * a).natAbs < 2 ^ 53 := by
    rw [Int.natAbs_mul]
    calc n.natAbs * a.natAbs ≤ 4096 * a.natAbs := Nat.mul_le_mul_right _ (by omega)
      _ < 2 ^ 53 := by omega
  rw [ofInt_fq (by omega), fq_mul (c := n * a) (by omega) (by omega) (by omega) (by rw [Int.mul_assoc]) hb]
  exact h _ rfl
theorem q_div_fi (hA : A.handled = none) (hx : x = fq a) (hn0 : n ≠ 0) (hn : n.natAbs < 2 ^ 49) (h : Q (.float (Float64.div (fq a) (fq (4 * n))) s.toks) { s with toks := s.toks + 1 }) : wpAny (model prog w) A (binaryOp .Div (.float x t) (.int n u)) Q E s := by
  subst hx
  refine @Held.out _ (truediv_fih hA (fun hq => absurd hq (notOver hn)) (fun h => absurd h hn0) fun _ _ => ?_)
  rw [ofInt_fq (Sm4 hn)]
  exact h
theorem q_mod_fi (hA : A.handled = none) (hx : x = fq a) (ha : Sm a) (hn0 : 0 < n) (hn : n.natAbs < 2 ^ 49) (h : AsF Q s (a % (4 * n))) : wpAny (model prog w) A (binaryOp .Mod (.float x t) (.int n u)) Q E s := by
  subst hx
  refine @Held.out _ (mod_fih hA (fun hq => absurd hq (notOver hn)) (fun h => absurd h (by omega)) fun _ _ => ?_)
  rw [ofInt_fq (Sm4 hn), mod_fq (Sm53 ha) (Sm4 hn) (by omega)]
  exact h _ rfl
theorem q_div_ii (hA : A.handled = none) {b : Int} (hb : 0 < b) (ha : a.natAbs < 2 ^ 49) (h : Q (.float (Float64.ofFrac (decide (a < 0) != decide (b < 0)) a.natAbs b.natAbs) s.toks) { s with toks := s.toks + 1 }) : wpAny (model prog w) A (binaryOp .Div (.int a t) (.int b u)) Q E s :=
  div_ii_fits hA (fits49 p49 ha) (fun h => absurd h (by omega)) fun _ _ => h

theorem fl_fin {z : UInt64} (hA : A.handled = none) (hz : Float64.isFinite z = true) (h : Q (.int (toInt Float64.floorOf z) s.toks) { s with toks := s.toks + 1 }) : wpAny (model prog w) A (call (.builtin "math.floor") [.float z t]) Q E s :=
  call_floor_float hA (fun h => absurd h (by rw [not_nan_of_finite hz]; decide)) (fun h => absurd h (by rw [not_inf_of_finite hz]; decide)) fun _ => h
theorem q_floor (hA : A.handled = none) (hx : x = fq a) (ha : Sm a) (h : AsI Q s (a / 4)) : wpAny (model prog w) A (call (.builtin "math.floor") [.float x t]) Q E s := by
  subst hx
  refine fl_fin hA (finite_fq (Sm53 ha)) ?_
  rw [floor_fq (Sm53 ha)]
  exact h _ rfl
theorem q_floor_div (hA : A.handled = none) (hx : x = Float64.div (fq a) (fq b)) (ha : Sm a) (hb : 0 < b) (hb2 : b ≤ 1048576) (hk : (a / b).natAbs < 2 ^ 32) (h : AsI Q s (a / b)) : wpAny (model prog w) A (call (.builtin "math.floor") [.float x t]) Q E s := by
  subst hx
  have := floor_div_fq (Sm53 ha) hb hb2 hk
  refine fl_fin hA this.1 ?_
  rw [this.2]
  exact h _ rfl
theorem q_floor_frac (hA : A.handled = none) (hx : x = Float64.ofFrac (decide (a < 0) != decide (b < 0)) a.natAbs b.natAbs) (ha : Sm a) (hb : 0 < b) (hb2 : b ≤ 1048576) (hk : (a / b).natAbs < 2 ^ 32) (h : AsI Q s (a / b)) : wpAny (model prog w) A (call (.builtin "math.floor") [.float x t]) Q E s := by
  subst hx
  have := floor_frac (Sm53 ha) hb hb2 hk
  refine fl_fin hA this.1 ?_
  rw [this.2]
  exact h _ rfl
theorem ce_fin {z : UInt64} (hA : A.handled = none) (hz : Float64.isFinite z = true) (h : Q (.int (toInt Float64.ceilOf z) s.toks) { s with toks := s.toks + 1 }) : wpAny (model prog w) A (call (.builtin "math.ceil") [.float z t]) Q E s :=
  call_ceil_float hA (fun h => absurd h (by rw [not_nan_of_finite hz]; decide)) (fun h => absurd h (by rw [not_inf_of_finite hz]; decide)) fun _ => h
theorem q_ceil (hA : A.handled = none) (hx : x = fq a) (ha : Sm a) (h : AsI Q s (-((-a) / 4))) : wpAny (model prog w) A (call (.builtin "math.ceil") [.float x t]) Q E s := by
  subst hx
  refine ce_fin hA (finite_fq (Sm53 ha)) ?_
  rw [ceil_fq (Sm53 ha)]
  exact h _ rfl
theorem q_ceil_div (hA : A.handled = none) (hx : x = Float64.div (fq a) (fq b)) (ha : Sm a) (hb : 0 < b) (hb2 : b ≤ 1048576) (hk : ((-a) / b).natAbs < 2 ^ 32) (h : AsI Q s (-((-a) / b))) : wpAny (model prog w) A (call (.builtin "math.ceil") [.float x t]) Q E s := by
  subst hx
  have := ceil_div_fq (Sm53 ha) hb hb2 hk
  refine ce_fin hA this.1 ?_
  rw [this.2]
  exact h _ rfl
theorem q_trunc (hA : A.handled = none) (hx : x = fq a) (h0 : 0 ≤ a) (ha : Sm a) (h : AsI Q s (a / 4)) : wpAny (model prog w) A (call (.builtin "math.trunc") [.float x t]) Q E s := by
  subst hx
  have hz := finite_fq (Sm53 ha)
  refine @Held.out _ (call_trunc_floath hA (fun h => absurd h (by rw [not_nan_of_finite hz]; decide)) (fun h => absurd h (by rw [not_inf_of_finite hz]; decide)) fun _ => ?_)
  rw [trunc_fq h0 (Sm53 ha)]
  exact h _ rfl
theorem q_int (hA : A.handled = none) (hx : x = fq a) (h0 : 0 ≤ a) (ha : Sm a) (h : AsI Q s (a / 4)) : wpAny (model prog w) A (call (.type "int") [.float x t]) Q E s := by
  subst hx
  have hz := finite_fq (Sm53 ha)
  refine @Held.out _ (call_int_float3h hA (fun h => absurd h (by rw [not_nan_of_finite hz]; decide)) (fun h => absurd h (by rw [not_inf_of_finite hz]; decide)) fun _ => ?_)
  rw [trunc_fq h0 (Sm53 ha)]
  exact h _ rfl
theorem q_mod_ii {b : Int} (hb : 0 < b) (h : AsI Q s (a % b)) : wpAny (model prog w) A (binaryOp .Mod (.int a t) (.int b u)) Q E s := by
  refine @Held.out _ (mod_inth (by omega) ?_)
  rw [Int.fmod_eq_emod_of_nonneg _ (by omega)]
  exact h _ rfl
theorem q_fdiv_ii {b : Int} (hb : 0 < b) (hb2 : b < 1073741824) (h : AsI Q s (a / b)) : wpAny (model prog w) A (binaryOp .FloorDiv (.int a t) (.int b u)) Q E s := by
  refine @Held.out _ (floordiv_inth (by omega) ?_ (Or.inl (PyProof.noPylong_small (by omega))))
  rw [Int.fdiv_eq_ediv_of_nonneg _ (by omega)]
  exact h _ rfl
theorem q_add_ii {b : Int} (h : AsI Q s (a + b)) : wpAny (model prog w) A (binaryOp .Add (.int a t) (.int b u)) Q E s := add_int (h _ rfl)
theorem q_iadd_ii {b : Int} (h : AsI Q s (a + b)) : wpAny (model prog w) A (inplaceOp .Add (.int a t) (.int b u)) Q E s := iadd_int (h _ rfl)
theorem q_sub_ii {b : Int} (h : AsI Q s (a - b)) : wpAny (model prog w) A (binaryOp .Sub (.int a t) (.int b u)) Q E s := sub_int (h _ rfl)
theorem q_add_ib {b : Bool} (h : AsI Q s (a + cond b 1 0)) : wpAny (model prog w) A (binaryOp .Add (.int a t) (.bool b)) Q E s := add_int_bool (h _ (by cases b <;> rfl))
theorem q_sub_ib {b : Bool} (h : AsI Q s (a - cond b 1 0)) : wpAny (model prog w) A (binaryOp .Sub (.int a t) (.bool b)) Q E s := PySem.IntBool.sub_int_bool (h _ (by cases b <;> rfl))
theorem q_div_ff {y : UInt64} {b : Int} {u : Tok} (hA : A.handled = none) (hx : x = fq a) (hy : y = fq b) (hb : b.natAbs < 2 ^ 53) (hb0 : b ≠ 0) (h : Q (.float (Float64.div (fq a) (fq b)) s.toks) { s with toks := s.toks + 1 }) : wpAny (model prog w) A (binaryOp .Div (.float x t) (.float y u)) Q E s := by
  subst hx hy
  exact @Held.out _ (truediv_float_orh hA (fun hz => absurd hz (by rw [isZero_fq hb hb0]; decide)) fun _ => h)
theorem g_div_ff {y : UInt64} {b : Int} {u : Tok} (hA : A.handled = none) (hy : y = fq b) (hb : b.natAbs < 2 ^ 53) (hb0 : b ≠ 0) (h : Q (.float (Float64.div x (fq b)) s.toks) { s with toks := s.toks + 1 }) : wpAny (model prog w) A (binaryOp .Div (.float x t) (.float y u)) Q E s := by
  subst hy
  exact @Held.out _ (truediv_float_orh hA (fun hz => absurd hz (by rw [isZero_fq hb hb0]; decide)) fun _ => h)
theorem g_sub_if (hn : n.natAbs < 2 ^ 49) (h : Q (.float (Float64.sub (Float64.ofInt n) x) s.toks) { s with toks := s.toks + 1 }) : wpAny (model prog w) A (binaryOp .Sub (.int n u) (.float x t)) Q E s :=
  sub_if_fits (fits49 p49 hn) h
theorem z306 : Float64.isZero 0x403e99a027525461 = false := by decide +kernel
theorem j_div_if (hA : A.handled = none) (hx : x = 0x403e99a027525461) (hn : n.natAbs < 2 ^ 49) (h : Q (.float (Float64.div (Float64.ofInt n) 0x403e99a027525461) s.toks) { s with toks := s.toks + 1 }) : wpAny (model prog w) A (binaryOp .Div (.int n u) (.float x t)) Q E s := by
  subst hx
  exact @Held.out _ (truediv_ifh hA (fun hq => absurd hq (notOver hn)) (fun _ hz => absurd hz (by rw [z306]; decide)) fun _ _ => h)
theorem j_mul_fi (hx : x = 0x403e99a027525461) (hn : n.natAbs < 2 ^ 49) (h : Q (.float (Float64.mul 0x403e99a027525461 (Float64.ofInt n)) s.toks) { s with toks := s.toks + 1 }) : wpAny (model prog w) A (binaryOp .Mult (.float x t) (.int n u)) Q E s := by
  subst hx
  exact @Held.out _ (mul_fi_fitsh (fits49 p49 hn) h)
theorem j_floor_cent {b : Int} (hA : A.handled = none) (hx : x = Float64.div (Float64.sub (Float64.ofInt b) 0x405e866666666666) (fq 1461)) (hb : b.natAbs < 2 ^ 40) (h : AsI Q s ((4 * b - 489) / 1461)) : wpAny (model prog w) A (call (.builtin "math.floor") [.float x t]) Q E s := by
  subst hx
  have := jul_cent hb
  refine fl_fin hA this.1 ?_
  rw [this.2]
  exact h _ rfl
theorem j_floor_month (hA : A.handled = none) (hx : x = Float64.div (Float64.ofInt n) 0x403e99a027525461) (h0 : 0 ≤ n) (h1 : n < 512) (h : AsI Q s (10000 * n / 306001)) : wpAny (model prog w) A (call (.builtin "math.floor") [.float x t]) Q E s := by
  subst hx
  have := jul_month h0 h1
  refine fl_fin hA this.1 ?_
  rw [this.2]
  exact h _ rfl
theorem j_floor_cum (hA : A.handled = none) (hx : x = Float64.mul 0x403e99a027525461 (Float64.ofInt n)) (h0 : 0 ≤ n) (h1 : n < 32) (h : AsI Q s (306001 * n / 10000)) : wpAny (model prog w) A (call (.builtin "math.floor") [.float x t]) Q E s := by
  subst hx
  have := jul_cum h0 h1
  refine fl_fin hA this.1 ?_
  rw [this.2]
  exact h _ rfl
theorem q_min {h₀ : Heap} {L : Addr} {m : Str → Option Value} {news : List (Addr × Obj)} {b : Int} (hA : A.handled = none) (F : Fr h₀ L s.heap m) (N : News h₀ L s.heap news)
    (h : ∀ (c : Int) (t' : Tok) (h' : Heap) (tk : Nat), (b < a ∧ c = b) ∨ (a ≤ b ∧ c = a) → Fr h₀ L h' m → News h₀ L h' news → Q (.int c t') { s with heap := h', toks := tk }) : wpAny (model prog w) A (call (.builtin "min") [.int a t, .int b u]) Q E s :=
  min_two_N hA F N fun h' tk F' N' => h _ _ h' tk (by by_cases c : b < a <;> simp [c] <;> omega) F' N'
theorem q_in30 {w : World} {h₀ : Heap} {L T : Addr} {m : Str → Option Value} {k : Int} {a1 a2 a3 a4 : Tok} {od : Option Addr} {c : Nat} {sl : Array (Option Value)} (F : Fr h₀ L s.heap m) (X : (hd.heap_39 w.params).In h₀)
    (e : (hd.heap_39 w.params).lookup T = some ⟨.type "tuple", od, .seq #[.int 4 a1, .int 6 a2, .int 9 a3, .int 11 a4] c, sl⟩)
    (h1 : (k = 4 ∨ k = 6 ∨ k = 9 ∨ k = 11) → Q (.bool true) s) (h0 : ¬ (k = 4 ∨ k = 6 ∨ k = 9 ∨ k = 11) → Q (.bool false) s) : wpAny (model prog w) A (compareOp .In (.int k u) (.ref T)) Q E s := by
  refine in_tuple_ints (items := #[.int 4 a1, .int 6 a2, .int 9 a3, .int 11 a4]) (ns := [4, 6, 9, 11]) ⟨_, F.keep _ _ (X _ _ e), rfl, _, rfl⟩ (.cons _ _ (.cons _ _ (.cons _ _ (.cons _ _ .nil)))) ?_
  by_cases h : k = 4 ∨ k = 6 ∨ k = 9 ∨ k = 11
  · have : (([4, 6, 9, 11] : List Int).any (· == k)) = true := by rcases h with h | h | h | h <;> subst h <;> rfl
    rw [this]
    exact h1 h
  · have : (([4, 6, 9, 11] : List Int).any (· == k)) = false := by
      simp only [List.any_cons, List.any_nil, Bool.or_false, Bool.or_eq_false_iff, beq_eq_false_iff_ne, ne_eq]
      omega
    rw [this]
    exact h0 h
/-- the days behind the year's first, as to_jd reckons them: a sum of floats under floor -/
theorem gsum_dec : ∀ i < 12, ∀ a < 3, ∀ j < 31, (Float64.isFinite (Float64.add (Float64.add (Float64.ofFrac (decide (367 * ((i : Nat) : Int) + 5 < 0) != decide ((12 : Int) < 0)) (367 * ((i : Nat) : Int) + 5).natAbs (Int.natAbs 12)) (Float64.ofInt (-((a : Nat) : Int)))) (Float64.ofInt (((j : Nat) : Int) + 1))) &&
    toInt Float64.floorOf (Float64.add (Float64.add (Float64.ofFrac (decide (367 * ((i : Nat) : Int) + 5 < 0) != decide ((12 : Int) < 0)) (367 * ((i : Nat) : Int) + 5).natAbs (Int.natAbs 12)) (Float64.ofInt (-((a : Nat) : Int)))) (Float64.ofInt (((j : Nat) : Int) + 1))) == (367 * ((i : Nat) : Int) + 5) / 12 - ((a : Nat) : Int) + (((j : Nat) : Int) + 1)) = true := by decide +kernel
theorem q_floor_gsum {l d c12 : Int} (hA : A.handled = none) (hx : x = Float64.add (Float64.add (Float64.ofFrac (decide (a < 0) != decide (c12 < 0)) a.natAbs (Int.natAbs c12)) (Float64.ofInt l)) (Float64.ofInt d)) (hc : c12 = 12) (n0 : 1 ≤ n) (n1 : n ≤ 12) (ha : a = 367 * n - 362)
    (l0 : -2 ≤ l) (l1 : l ≤ 0) (d0 : 1 ≤ d) (d1 : d ≤ 31) (h : AsI Q s ((367 * n - 362) / 12 + l + d)) : wpAny (model prog w) A (call (.builtin "math.floor") [.float x t]) Q E s := by
  subst hx ha hc
  have key := gsum_dec (n - 1).toNat (by omega) (-l).toNat (by omega) (d - 1).toNat (by omega)
  have e1 : (((n - 1).toNat : Nat) : Int) = n - 1 := by omega
  have e2 : -(((-l).toNat : Nat) : Int) = l := by omega
  have e3 : (((d - 1).toNat : Nat) : Int) + 1 = d := by omega
  have e4 : 367 * (n - 1) + 5 = 367 * n - 362 := by omega
  have e5 : ((((-l).toNat : Nat) : Int)) = -l := by omega
  rw [e1, e2, e3, e4, e5, Bool.and_eq_true, beq_iff_eq] at key
  refine fl_fin hA key.1 ?_
  rw [key.2]
  exact h _ (by omega)
theorem g_add_fi (hn : n.natAbs < 2 ^ 49) (h : Q (.float (Float64.add x (Float64.ofInt n)) s.toks) { s with toks := s.toks + 1 }) : wpAny (model prog w) A (binaryOp .Add (.float x t) (.int n u)) Q E s :=
  add_fi_fits (fits49 p49 hn) h
theorem q_lt_fi (hx : x = fq a) (ha : Sm a) (h : Q (.bool (decide (a < 4 * n))) s) : wpAny (model prog w) A (compareOp .Lt (.float x t) (.int n u)) Q E s := by
  subst hx
  refine @Held.out _ (lt_fih ?_)
  rw [cmpInt_fq (Sm53 ha)]
  have : (some (compare a (4 * n)) == some Ordering.lt) = decide (a < 4 * n) := by
    rcases Int.lt_trichotomy a (4 * n) with h | h | h
    · rw [Int.compare_eq_lt.mpr h]; simp [h]
    · subst h; simp
    · rw [Int.compare_eq_gt.mpr h]
      have : ¬ a < 4 * n := by omega
      simp [this]
  rw [this]
  exact h
end
section
def Con.useh := fun {x0} {x1} {x2} {x3} {x4} {x5} {x6} {x7} {x8} {x9} {x10} (x11) {x12} {x13} {x14} {x15} {x16} {x17} {x18} {x19} {x20} {x21} {x22} {x23} {x24} {x25} {x26} {x27} {x28} {x29} (x30) (x31) (x32) (x33) (x34) (x35) (x36) (x37) (x38) (x39) => Held.mk (@Mine.Con.use x0 x1 x2 x3 x4 x5 x6 x7 x8 x9 x10 x11 x12 x13 x14 x15 x16 x17 x18 x19 x20 x21 x22 x23 x24 x25 x26 x27 x28 x29 x30 x31 x32 x33 x34 x35 x36 x37 x38 x39)
def ConP.useh := fun {x0} {x1} {x2} {x3} {x4} {x5} {x6} {x7} {x8} {x9} (x10) {x11} {x12} {x13} {x14} {x15} {x16} {x17} {x18} {x19} {x20} {x21} {x22} {x23} {x24} {x25} {x26} {x27} {x28} (x29) (x30) (x31) (x32) (x33) (x34) (x35) (x36) (x37) (x38) => Held.mk (@Mine.ConP.use x0 x1 x2 x3 x4 x5 x6 x7 x8 x9 x10 x11 x12 x13 x14 x15 x16 x17 x18 x19 x20 x21 x22 x23 x24 x25 x26 x27 x28 x29 x30 x31 x32 x33 x34 x35 x36 x37 x38)
def ConT.useh := fun {x0} {x1} {x2} {x3} {x4} {x5} {x6} {x7} {x8} {x9} (x10) {x11} {x12} {x13} {x14} {x15} {x16} {x17} {x18} {x19} {x20} {x21} {x22} {x23} {x24} {x25} {x26} {x27} {x28} (x29) (x30) (x31) (x32) (x33) (x34) (x35) (x36) (x37) (x38) => Held.mk (@Mine.ConT.use x0 x1 x2 x3 x4 x5 x6 x7 x8 x9 x10 x11 x12 x13 x14 x15 x16 x17 x18 x19 x20 x21 x22 x23 x24 x25 x26 x27 x28 x29 x30 x31 x32 x33 x34 x35 x36 x37 x38)
def g_add_fih := fun {x0} {x1} {x2} {x3} {x4} {x5} {x6} {x7} {x8} {x9} (x10) (x11) => Held.mk (@Mine.g_add_fi x0 x1 x2 x3 x4 x5 x6 x7 x8 x9 x10 x11)
def g_div_ffh := fun {x0} {x1} {x2} {x3} {x4} {x5} {x6} {x7} {x8} {x9} {x10} (x11) (x12) (x13) (x14) (x15) => Held.mk (@Mine.g_div_ff x0 x1 x2 x3 x4 x5 x6 x7 x8 x9 x10 x11 x12 x13 x14 x15)
def g_sub_ifh := fun {x0} {x1} {x2} {x3} {x4} {x5} {x6} {x7} {x8} {x9} (x10) (x11) => Held.mk (@Mine.g_sub_if x0 x1 x2 x3 x4 x5 x6 x7 x8 x9 x10 x11)
def j_div_ifh := fun {x0} {x1} {x2} {x3} {x4} {x5} {x6} {x7} {x8} {x9} (x10) (x11) (x12) (x13) => Held.mk (@Mine.j_div_if x0 x1 x2 x3 x4 x5 x6 x7 x8 x9 x10 x11 x12 x13)
def j_floor_centh := fun {x0} {x1} {x2} {x3} {x4} {x5} {x6} {x7} {x8} (x9) (x10) (x11) (x12) => Held.mk (@Mine.j_floor_cent x0 x1 x2 x3 x4 x5 x6 x7 x8 x9 x10 x11 x12)
def j_floor_cumh := fun {x0} {x1} {x2} {x3} {x4} {x5} {x6} {x7} {x8} (x9) (x10) (x11) (x12) (x13) => Held.mk (@Mine.j_floor_cum x0 x1 x2 x3 x4 x5 x6 x7 x8 x9 x10 x11 x12 x13)
def j_floor_monthh := fun {x0} {x1} {x2} {x3} {x4} {x5} {x6} {x7} {x8} (x9) (x10) (x11) (x12) (x13) => Held.mk (@Mine.j_floor_month x0 x1 x2 x3 x4 x5 x6 x7 x8 x9 x10 x11 x12 x13)
def j_mul_fih := fun {x0} {x1} {x2} {x3} {x4} {x5} {x6} {x7} {x8} {x9} (x10) (x11) (x12) => Held.mk (@Mine.j_mul_fi x0 x1 x2 x3 x4 x5 x6 x7 x8 x9 x10 x11 x12)
def q_addh := fun {x0} {x1} {x2} {x3} {x4} {x5} {x6} {x7} {x8} {x9} {x10} {x11} (x12) (x13) (x14) (x15) (x16) => Held.mk (@Mine.q_add x0 x1 x2 x3 x4 x5 x6 x7 x8 x9 x10 x11 x12 x13 x14 x15 x16)
def q_add_fih := fun {x0} {x1} {x2} {x3} {x4} {x5} {x6} {x7} {x8} {x9} {x10} (x11) (x12) (x13) (x14) => Held.mk (@Mine.q_add_fi x0 x1 x2 x3 x4 x5 x6 x7 x8 x9 x10 x11 x12 x13 x14)
def q_add_ibh := fun {x0} {x1} {x2} {x3} {x4} {x5} {x6} {x7} {x8} (x9) => Held.mk (@Mine.q_add_ib x0 x1 x2 x3 x4 x5 x6 x7 x8 x9)
def q_add_ifh := fun {x0} {x1} {x2} {x3} {x4} {x5} {x6} {x7} {x8} {x9} {x10} (x11) (x12) (x13) (x14) => Held.mk (@Mine.q_add_if x0 x1 x2 x3 x4 x5 x6 x7 x8 x9 x10 x11 x12 x13 x14)
def q_add_iih := fun {x0} {x1} {x2} {x3} {x4} {x5} {x6} {x7} {x8} {x9} (x10) => Held.mk (@Mine.q_add_ii x0 x1 x2 x3 x4 x5 x6 x7 x8 x9 x10)
def q_ceilh := fun {x0} {x1} {x2} {x3} {x4} {x5} {x6} {x7} {x8} (x9) (x10) (x11) (x12) => Held.mk (@Mine.q_ceil x0 x1 x2 x3 x4 x5 x6 x7 x8 x9 x10 x11 x12)
def q_ceil_divh := fun {x0} {x1} {x2} {x3} {x4} {x5} {x6} {x7} {x8} {x9} (x10) (x11) (x12) (x13) (x14) (x15) (x16) => Held.mk (@Mine.q_ceil_div x0 x1 x2 x3 x4 x5 x6 x7 x8 x9 x10 x11 x12 x13 x14 x15 x16)
def q_div_ffh := fun {x0} {x1} {x2} {x3} {x4} {x5} {x6} {x7} {x8} {x9} {x10} {x11} (x12) (x13) (x14) (x15) (x16) (x17) => Held.mk (@Mine.q_div_ff x0 x1 x2 x3 x4 x5 x6 x7 x8 x9 x10 x11 x12 x13 x14 x15 x16 x17)
def q_div_fih := fun {x0} {x1} {x2} {x3} {x4} {x5} {x6} {x7} {x8} {x9} {x10} (x11) (x12) (x13) (x14) (x15) => Held.mk (@Mine.q_div_fi x0 x1 x2 x3 x4 x5 x6 x7 x8 x9 x10 x11 x12 x13 x14 x15)
def q_div_iih := fun {x0} {x1} {x2} {x3} {x4} {x5} {x6} {x7} {x8} (x9) {x10} (x11) (x12) (x13) => Held.mk (@Mine.q_div_ii x0 x1 x2 x3 x4 x5 x6 x7 x8 x9 x10 x11 x12 x13)
def q_fdiv_iih := fun {x0} {x1} {x2} {x3} {x4} {x5} {x6} {x7} {x8} {x9} (x10) (x11) (x12) => Held.mk (@Mine.q_fdiv_ii x0 x1 x2 x3 x4 x5 x6 x7 x8 x9 x10 x11 x12)
def q_floorh := fun {x0} {x1} {x2} {x3} {x4} {x5} {x6} {x7} {x8} (x9) (x10) (x11) (x12) => Held.mk (@Mine.q_floor x0 x1 x2 x3 x4 x5 x6 x7 x8 x9 x10 x11 x12)
def q_floor_divh := fun {x0} {x1} {x2} {x3} {x4} {x5} {x6} {x7} {x8} {x9} (x10) (x11) (x12) (x13) (x14) (x15) (x16) => Held.mk (@Mine.q_floor_div x0 x1 x2 x3 x4 x5 x6 x7 x8 x9 x10 x11 x12 x13 x14 x15 x16)
def q_floor_frach := fun {x0} {x1} {x2} {x3} {x4} {x5} {x6} {x7} {x8} {x9} (x10) (x11) (x12) (x13) (x14) (x15) (x16) => Held.mk (@Mine.q_floor_frac x0 x1 x2 x3 x4 x5 x6 x7 x8 x9 x10 x11 x12 x13 x14 x15 x16)
def q_floor_gsumh := fun {x0} {x1} {x2} {x3} {x4} {x5} {x6} {x7} {x8} {x9} {x10} {x11} {x12} (x13) (x14) (x15) (x16) (x17) (x18) (x19) (x20) (x21) (x22) (x23) => Held.mk (@Mine.q_floor_gsum x0 x1 x2 x3 x4 x5 x6 x7 x8 x9 x10 x11 x12 x13 x14 x15 x16 x17 x18 x19 x20 x21 x22 x23)
def q_iaddh := fun {x0} {x1} {x2} {x3} {x4} {x5} {x6} {x7} {x8} {x9} {x10} {x11} (x12) (x13) (x14) (x15) (x16) => Held.mk (@Mine.q_iadd x0 x1 x2 x3 x4 x5 x6 x7 x8 x9 x10 x11 x12 x13 x14 x15 x16)
def q_iadd_fih := fun {x0} {x1} {x2} {x3} {x4} {x5} {x6} {x7} {x8} {x9} {x10} (x11) (x12) (x13) (x14) (x15) => Held.mk (@Mine.q_iadd_fi x0 x1 x2 x3 x4 x5 x6 x7 x8 x9 x10 x11 x12 x13 x14 x15)
def q_iadd_ifh := fun {x0} {x1} {x2} {x3} {x4} {x5} {x6} {x7} {x8} {x9} {x10} (x11) (x12) (x13) (x14) (x15) => Held.mk (@Mine.q_iadd_if x0 x1 x2 x3 x4 x5 x6 x7 x8 x9 x10 x11 x12 x13 x14 x15)
def q_iadd_iih := fun {x0} {x1} {x2} {x3} {x4} {x5} {x6} {x7} {x8} {x9} (x10) => Held.mk (@Mine.q_iadd_ii x0 x1 x2 x3 x4 x5 x6 x7 x8 x9 x10)
def q_in30h := fun {x0} {x1} {x2} {x3} {x4} {x5} {x6} {x7} {x8} {x9} {x10} {x11} {x12} {x13} {x14} {x15} {x16} {x17} {x18} (x19) (x20) (x21) (x22) (x23) => Held.mk (@Mine.q_in30 x0 x1 x2 x3 x4 x5 x6 x7 x8 x9 x10 x11 x12 x13 x14 x15 x16 x17 x18 x19 x20 x21 x22 x23)
def q_inth := fun {x0} {x1} {x2} {x3} {x4} {x5} {x6} {x7} {x8} (x9) (x10) (x11) (x12) (x13) => Held.mk (@Mine.q_int x0 x1 x2 x3 x4 x5 x6 x7 x8 x9 x10 x11 x12 x13)
def q_isub_fih := fun {x0} {x1} {x2} {x3} {x4} {x5} {x6} {x7} {x8} {x9} {x10} (x11) (x12) (x13) (x14) (x15) => Held.mk (@Mine.q_isub_fi x0 x1 x2 x3 x4 x5 x6 x7 x8 x9 x10 x11 x12 x13 x14 x15)
def q_lt_fih := fun {x0} {x1} {x2} {x3} {x4} {x5} {x6} {x7} {x8} {x9} {x10} (x11) (x12) (x13) => Held.mk (@Mine.q_lt_fi x0 x1 x2 x3 x4 x5 x6 x7 x8 x9 x10 x11 x12 x13)
def q_minh := fun {x0} {x1} {x2} {x3} {x4} {x5} {x6} {x7} {x8} {x9} {x10} {x11} {x12} {x13} (x14) (x15) (x16) (x17) => Held.mk (@Mine.q_min x0 x1 x2 x3 x4 x5 x6 x7 x8 x9 x10 x11 x12 x13 x14 x15 x16 x17)
def q_mod_fih := fun {x0} {x1} {x2} {x3} {x4} {x5} {x6} {x7} {x8} {x9} {x10} (x11) (x12) (x13) (x14) (x15) (x16) => Held.mk (@Mine.q_mod_fi x0 x1 x2 x3 x4 x5 x6 x7 x8 x9 x10 x11 x12 x13 x14 x15 x16)
def q_mod_iih := fun {x0} {x1} {x2} {x3} {x4} {x5} {x6} {x7} {x8} {x9} (x10) (x11) => Held.mk (@Mine.q_mod_ii x0 x1 x2 x3 x4 x5 x6 x7 x8 x9 x10 x11)
def q_mul_fih := fun {x0} {x1} {x2} {x3} {x4} {x5} {x6} {x7} {x8} {x9} {x10} (x11) (x12) (x13) (x14) (x15) => Held.mk (@Mine.q_mul_fi x0 x1 x2 x3 x4 x5 x6 x7 x8 x9 x10 x11 x12 x13 x14 x15)
def q_mul_fph := fun {x0} {x1} {x2} {x3} {x4} {x5} {x6} {x7} {x8} {x9} {x10} (x11) (x12) (x13) (x14) (x15) => Held.mk (@Mine.q_mul_fp x0 x1 x2 x3 x4 x5 x6 x7 x8 x9 x10 x11 x12 x13 x14 x15)
def q_mul_pfh := fun {x0} {x1} {x2} {x3} {x4} {x5} {x6} {x7} {x8} {x9} {x10} (x11) (x12) (x13) (x14) (x15) => Held.mk (@Mine.q_mul_pf x0 x1 x2 x3 x4 x5 x6 x7 x8 x9 x10 x11 x12 x13 x14 x15)
def q_subh := fun {x0} {x1} {x2} {x3} {x4} {x5} {x6} {x7} {x8} {x9} {x10} {x11} (x12) (x13) (x14) (x15) (x16) => Held.mk (@Mine.q_sub x0 x1 x2 x3 x4 x5 x6 x7 x8 x9 x10 x11 x12 x13 x14 x15 x16)
def q_sub_fih := fun {x0} {x1} {x2} {x3} {x4} {x5} {x6} {x7} {x8} {x9} {x10} (x11) (x12) (x13) (x14) => Held.mk (@Mine.q_sub_fi x0 x1 x2 x3 x4 x5 x6 x7 x8 x9 x10 x11 x12 x13 x14)
def q_sub_ibh := fun {x0} {x1} {x2} {x3} {x4} {x5} {x6} {x7} {x8} (x9) => Held.mk (@Mine.q_sub_ib x0 x1 x2 x3 x4 x5 x6 x7 x8 x9)
def q_sub_ifh := fun {x0} {x1} {x2} {x3} {x4} {x5} {x6} {x7} {x8} {x9} {x10} (x11) (x12) (x13) (x14) => Held.mk (@Mine.q_sub_if x0 x1 x2 x3 x4 x5 x6 x7 x8 x9 x10 x11 x12 x13 x14)
def q_sub_iih := fun {x0} {x1} {x2} {x3} {x4} {x5} {x6} {x7} {x8} {x9} (x10) => Held.mk (@Mine.q_sub_ii x0 x1 x2 x3 x4 x5 x6 x7 x8 x9 x10)
def q_trunch := fun {x0} {x1} {x2} {x3} {x4} {x5} {x6} {x7} {x8} (x9) (x10) (x11) (x12) (x13) => Held.mk (@Mine.q_trunc x0 x1 x2 x3 x4 x5 x6 x7 x8 x9 x10 x11 x12 x13)
end
end
section
theorem rs_DT : True := by
  w_top off
  trivial
open PySem PySem.W PySem.Calls PyProof.Rows PySem.Flt
open PySem.Builtin._datetime (daysInMonth isoCalendarOf)

theorem dt_mro : mroOf (.type "datetime.date") = pure [.type "datetime.date", .type "object"] := by rw [mroOf_type]; kernel_rfl
theorem dt_lookup_new : typeLookup (.type "datetime.date") "__new__" = pure (some (.builtin "datetime.date.__new__")) := by rw [typeLookup_type, builtinLookup_eq_fast]; kernel_rfl
theorem dt_slot_init : Slot "datetime.date" "__init__" "object.__init__" :=
  .of (owner := "object") (n := "__init__") (by rw [typeLookup_type, builtinLookup_eq_fast]; kernel_rfl) (by decide +kernel) (by decide +kernel) (by decide +kernel)
    (by first | exact .inl (by decide +kernel) | exact .inr (by decide +kernel)) (by rw [isSubtype_type]; kernel_rfl)
theorem dt_sub : isSubtype (.type "datetime.date") (.type "datetime.date") = pure true := by rw [isSubtype_type]; kernel_rfl
theorem dt_called : TypeCalled "datetime.date" "datetime.date.__new__" "object.__init__" :=
  ⟨by decide +kernel, by decide +kernel, ⟨_, _, dt_mro⟩, madeBy_type dt_mro dt_lookup_new (by decide +kernel), by decide +kernel, dt_sub, dt_slot_init⟩
theorem dt_typeCall (a b c : Value) : checkTypeCall "datetime.date" ⟨[a, b, c], []⟩ = pure () := by kernel_rfl
theorem dt_newCall (a b c : Value) : checkBuiltinCall "datetime.date.__new__" ⟨[.type "datetime.date", a, b, c], []⟩ = pure () := by kernel_rfl
theorem dt_args_init (a b c d : Value) : argsOk "object.__init__" ⟨[a, b, c, d], []⟩ := by
  unfold argsOk; rw [PySem.signature?_of (id := "object.__init__") (n := ['_', '_', 't', 'i', 'n', 'i', '_', '_']) (o := ['t', 'c', 'e', 'j', 'b', 'o']) (by kernel_rfl) PySem.F.owner_object]; kernel_rfl
theorem dt_entry_new : entryFor table "datetime.date.__new__" = some Builtin.«datetime.date.__new__» := entryFor_of_tree (by kernel_rfl)
theorem dt_newNe : (some "datetime.date.__new__" != some "object.__new__") = true := by decide +kernel
theorem dt_madeHere : Bind.madeHere "datetime.date.__new__" (.type "datetime.date") = pure () := by kernel_rfl
theorem dt_notdt : isSubtype (.type "datetime.date") (.type "datetime.datetime") = pure false := by rw [isSubtype_type]; kernel_rfl

theorem wpAny_if_not {α : Type} {M : Model} {A : Around} {E : Value → Shared → Prop} {Q : α → Shared → Prop} {s : Shared} {c : Prop} [Decidable c] {a b : Sem α} (h : ¬ c) (hb : wpAny M A b Q E s) : wpAny M A (if c then a else b) Q E s := by rw [if_neg h]; exact hb
theorem wpAny_if_notor {α : Type} {M : Model} {A : Around} {E : Value → Shared → Prop} {Q : α → Shared → Prop} {s : Shared} {c d : Prop} [Decidable c] [Decidable d] {a b : Sem α} (h : ¬ c) (h' : ¬ d) (hb : wpAny M A b Q E s) : wpAny M A (if (decide c || decide d) = true then a else b) Q E s := by rw [if_neg (by simp [h, h'])]; exact hb
theorem wpAny_if_yes {α : Type} {M : Model} {A : Around} {E : Value → Shared → Prop} {Q : α → Shared → Prop} {s : Shared} {c : Prop} [Decidable c] {a b : Sem α} (h : c) (hb : wpAny M A a Q E s) : wpAny M A (if c then a else b) Q E s := by rw [if_pos h]; exact hb
local macro_rules | `(tactic| walk_at "my dt") => `(tactic| first
  | with_reducible assumption
  | with_reducible (first | refine wpAny_pure ?_ | refine wpAny_bind ?_ | refine wpAny_holding ?_ | refine wpAny_mkInt' ?_ | refine wpAny_fresh' ?_ | refine wpAny_alloc' ?_ | refine wpAny_of_eq (by assumption) ?_)
  | ((with_reducible refine PySem.wpAny_ite_false ?hc ?_); (case hc => rfl))
  | ((with_reducible refine PySem.wpAny_ite_true ?hc ?_); (case hc => rfl))
  | (with_reducible refine wpAny_if_notor ?ha ?hb ?_; (case ha => omega); (case hb => omega))
  | (with_reducible refine wpAny_if_not ?hc ?_; (case hc => first | omega | (simp only [decide_eq_false_iff_not, ge_iff_le, gt_iff_lt, Bool.or_eq_true, decide_eq_true_eq]; omega)))
  | (with_reducible refine wpAny_if_yes ?hc ?_; (case hc => first | omega | (simp only [Bool.or_eq_true, decide_eq_true_eq]; omega)))
  | wp_delta | wp_step)
theorem dt_new_gives (y m d : Int) (t u v : Tok) (hy : 1 ≤ y ∧ y ≤ 9999) (hm : 1 ≤ m ∧ m ≤ 12) (hd : 1 ≤ d ∧ d ≤ 31) (hdm : d ≤ daysInMonth y m) :
    Meets (Builtin.«datetime.date.__new__» ⟨[.type "datetime.date", .int y t, .int m u, .int d v], []⟩)
      (fun _ R s => R (.ok (.ret (Value.ref s.heap.objs.size))) { s with heap := s.heap.push { cls := .type "datetime.date", data := .fields #[rawInt y, rawInt m, rawInt d] } }) :=
  Meets.of_wp fun prog w A R s hs => by
    obtain ⟨hp, g, dr, tk, os⟩ := s
    have f1 := dt_sub
    have f2 := dt_madeHere
    have f3 := dt_notdt
    repeat (any_goals (walk_at "my dt"))
    all_goals exact ⟨_, rfl, hs⟩
theorem year_text {y : Int} (h : -100000000 ≤ y ∧ y ≤ 100000000) : (Str.ofString (toString "year " ++ toString y ++ toString " is out of range")).length ≤ sizeLine := by
  have h1 : (toString y).length ≤ 10 := int_text_length_le10 (k := 9) (by decide) (by omega)
  rw [PySem.ofString_length, String.length_append, String.length_append, sizeLine_eq]
  have h2 : (toString "year ").length = 5 := by decide
  have h3 : (toString " is out of range").length = 16 := by decide
  omega
theorem dt_new_raises (y m d : Int) (t u v : Tok) (hy : y < 1 ∨ 9999 < y) (hy2 : -100000000 ≤ y ∧ y ≤ 100000000) (hm : 1 ≤ m ∧ m ≤ 12) (hd : 1 ≤ d ∧ d ≤ 31) :
    Meets (Builtin.«datetime.date.__new__» ⟨[.type "datetime.date", .int y t, .int m u, .int d v], []⟩) (raisesNew "ValueError") :=
  Meets.of_wp fun prog w A R s hs => by
    obtain ⟨hp, g, dr, tk, os⟩ := s
    have f1 := dt_sub
    have f2 := dt_madeHere
    have f3 := dt_notdt
    repeat (any_goals (walk_at "my dt"))
    all_goals exact (wpAny_raiseErrorMade plainExc_ValueError hs.1 (fun h' tk' e hx => hs.2 h' tk' e hx) (year_text hy2))
theorem dt_plain : PlainAttrs "datetime.date" :=
  ⟨⟨"object.__getattribute__", by rw [typeLookup_type, builtinLookup_eq_fast]; kernel_rfl, by decide +kernel⟩, by rw [typeLookup_type, builtinLookup_eq_fast]; kernel_rfl⟩
theorem dt_slot_iso : Slot "datetime.date" "isocalendar" "datetime.date.isocalendar" :=
  .of (owner := "datetime.date") (n := "isocalendar") (by rw [typeLookup_type, builtinLookup_eq_fast]; kernel_rfl) (by decide +kernel) (by decide +kernel) (by decide +kernel)
    (by first | exact .inl (by decide +kernel) | exact .inr (by decide +kernel)) (by rw [isSubtype_type]; kernel_rfl)
theorem dt_type_iso : typeOf (.builtin "datetime.date.isocalendar") = pure (.type "method_descriptor") := by show builtinType _ = _; rw [builtinType_eq_fast]; kernel_rfl
theorem dt_entry_iso : entryFor table "datetime.date.isocalendar" = some Builtin.«datetime.date.isocalendar» := entryFor_of_tree (by kernel_rfl)
theorem dt_owner : Manifest.owners.lookup (String.ofList ['e', 't', 'a', 'd', '.', 'e', 'm', 'i', 't', 'e', 't', 'a', 'd'].reverse) = some Manifest.sig_datetime_date := by kernel_rfl
theorem dt_args_iso (a : Value) : argsOk "datetime.date.isocalendar" ⟨[a], []⟩ := by
  unfold argsOk; rw [PySem.signature?_of (id := "datetime.date.isocalendar") (n := ['r', 'a', 'd', 'n', 'e', 'l', 'a', 'c', 'o', 's', 'i']) (o := ['e', 't', 'a', 'd', '.', 'e', 'm', 'i', 't', 'e', 't', 'a', 'd']) (by kernel_rfl) dt_owner]; kernel_rfl
abbrev dateObj (y m d : Int) : Obj := { cls := .type "datetime.date", data := .fields #[rawInt y, rawInt m, rawInt d] }
theorem dt_iso_gives (D : Addr) (y m d : Int) :
    Meets (Builtin.«datetime.date.isocalendar» ⟨[.ref D], []⟩)
      (fun _ R s => s.heap.get? D = some (dateObj y m d) ∧ ∀ t1 t2 t3 tk', R (.ok (.ret (Value.ref s.heap.objs.size))) { s with heap := s.heap.push { cls := .type "datetime.IsoCalendarDate", data := .seq #[.int (isoCalendarOf y m d).1 t1, .int (isoCalendarOf y m d).2.1 t2, .int (isoCalendarOf y m d).2.2 t3] }, toks := tk' }) :=
  Meets.of_wp fun prog w A R s hs => by
    obtain ⟨hp, g, dr, tk, os⟩ := s
    obtain ⟨hD, hs⟩ := hs
    have f1 := dt_sub
    have f4 : (⟨hp, g, dr, tk, os⟩ : Shared).TypeIs (.ref D) "datetime.date" := ⟨_, hD, rfl⟩
    repeat (any_goals (walk_at "my dt"))
    all_goals exact ⟨_, rfl, hs _ _ _ _⟩
section
variable {prog : Program} {w : World} {A : Around} {E : Value → Shared → Prop} {s : Shared} {Q : Value → Shared → Prop} {h₀ : Heap} {L : Addr} {mm : Str → Option Value} {news : List (Addr × Obj)} {y m d : Int} {t u v : Tok}
theorem allLt_size {h : Heap} (N : News h₀ L h news) : AllLt h.objs.size news := allLt_of fun p hp => Heap.lt_size (N p hp).1
theorem q_date (F : Fr h₀ L s.heap mm) (N : News h₀ L s.heap news) (hy : 1 ≤ y ∧ y ≤ 9999) (hm : 1 ≤ m ∧ m ≤ 12) (hd : 1 ≤ d ∧ d ≤ 31) (hdm : d ≤ daysInMonth y m)
    (h : ∀ D h', Fr h₀ L h' mm → News h₀ L h' ((D, dateObj y m d) :: news) → AllLt D news → Q (.ref D) { s with heap := h' }) :
    wpAny (model prog w) A (call (.type "datetime.date") [.int y t, .int m u, .int d v]) Q E s :=
  callType_new dt_called dt_newNe (dt_typeCall _ _ _) (dt_newCall _ _ _) (fun obj => dt_args_init obj _ _ _) dt_entry_new (dt_new_gives y m d t u v hy hm hd hdm)
    ⟨⟨_, Heap.get?_push_size _ rfl, rfl⟩, h _ _ (F.push _) (News.push F N _ rfl) (allLt_size N)⟩
theorem q_date_raise (hA : A.handled = none) (hy : y < 1 ∨ 9999 < y) (hy2 : -100000000 ≤ y ∧ y ≤ 100000000) (hm : 1 ≤ m ∧ m ≤ 12) (hd : 1 ≤ d ∧ d ≤ 31)
    (h : ∀ h' tk e, Heap.NewExc s.heap h' e "ValueError" → E (.ref e) { s with heap := h', toks := tk }) :
    wpAny (model prog w) A (call (.type "datetime.date") [.int y t, .int m u, .int d v]) Q E s :=
  callType_new dt_called dt_newNe (dt_typeCall _ _ _) (dt_newCall _ _ _) (fun obj => dt_args_init obj _ _ _) dt_entry_new (dt_new_raises y m d t u v hy hy2 hm hd)
    ⟨hA, fun h' tk e hx => h h' tk e hx⟩
theorem q_getiso {D : Addr} {pl : Sem Bool} {Q : Value × List Value → Shared → Prop} (N : News h₀ L s.heap news) (hm : (D, dateObj y m d) ∈ news) (h : Q (.builtin "datetime.date.isocalendar", [.ref D]) s) :
    wpAny (model prog w) A (getMethod (.ref D) "isocalendar" pl) Q E s :=
  getMethod_builtin ⟨_, (N _ hm).1, rfl⟩ dt_plain dt_slot_iso dt_type_iso (fun a e => by cases e; exact ⟨_, (N _ hm).1, rfl⟩) h
theorem q_isocal {D : Addr} (F : Fr h₀ L s.heap mm) (N : News h₀ L s.heap news) (hm : (D, dateObj y m d) ∈ news)
    (h : ∀ D' t1 t2 t3 h' tk', Fr h₀ L h' mm → News h₀ L h' ((D', ({ cls := .type "datetime.IsoCalendarDate", data := .seq #[.int (isoCalendarOf y m d).1 t1, .int (isoCalendarOf y m d).2.1 t2, .int (isoCalendarOf y m d).2.2 t3] } : Obj)) :: news) → AllLt D' news → Q (.ref D') { s with heap := h', toks := tk' }) :
    wpAny (model prog w) A (call (.builtin "datetime.date.isocalendar") [.ref D]) Q E s :=
  call_meets dt_slot_iso ⟨_, (N _ hm).1, rfl⟩ dt_entry_iso (dt_args_iso _) (dt_iso_gives D y m d) ⟨(N _ hm).1, fun t1 t2 t3 tk' => h _ t1 t2 t3 _ tk' (F.push _) (News.push F N _ rfl) (allLt_size N)⟩
end
section
def q_dateh := fun {x0} {x1} {x2} {x3} {x4} {x5} {x6} {x7} {x8} {x9} {x10} {x11} {x12} {x13} {x14} {x15} (x16) (x17) (x18) (x19) (x20) (x21) (x22) => Held.mk (@Mine.q_date x0 x1 x2 x3 x4 x5 x6 x7 x8 x9 x10 x11 x12 x13 x14 x15 x16 x17 x18 x19 x20 x21 x22)
def q_date_raiseh := fun {x0} {x1} {x2} {x3} {x4} {x5} {x6} {x7} {x8} {x9} {x10} {x11} (x12) (x13) (x14) (x15) (x16) (x17) => Held.mk (@Mine.q_date_raise x0 x1 x2 x3 x4 x5 x6 x7 x8 x9 x10 x11 x12 x13 x14 x15 x16 x17)
def q_getisoh := fun {x0} {x1} {x2} {x3} {x4} {x5} {x6} {x7} {x8} {x9} {x10} {x11} {x12} {x13} (x14) (x15) (x16) => Held.mk (@Mine.q_getiso x0 x1 x2 x3 x4 x5 x6 x7 x8 x9 x10 x11 x12 x13 x14 x15 x16)
def q_isocalh := fun {x0} {x1} {x2} {x3} {x4} {x5} {x6} {x7} {x8} {x9} {x10} {x11} {x12} {x13} (x14) (x15) (x16) (x17) => Held.mk (@Mine.q_isocal x0 x1 x2 x3 x4 x5 x6 x7 x8 x9 x10 x11 x12 x13 x14 x15 x16 x17)
end
end
section
open PySem PySem.W PySem.Calls PyProof.Rows PySem.Flt
theorem rs_CB : True := by
  w_top off
  trivial
section
variable {w : World} {mean : ExcName → Option Value} {mg mb : Str → Option Value}
/-- 1 in a leap year, 0 in another -/
noncomputable def lp (y : Int) : Int := if y % 4 = 0 ∧ (y % 100 ≠ 0 ∨ y % 400 = 0) then 1 else 0
/-- the number of the year's first day (Gregorian) -/
noncomputable def gbeg (y : Int) : Int := 1721426 + 365 * (y - 1) + (y - 1) / 4 - (y - 1) / 100 + (y - 1) / 400
theorem lp01 (y : Int) : 0 ≤ lp y ∧ lp y ≤ 1 := by unfold lp; split <;> omega
theorem lp_one {y : Int} (h : y % 4 = 0 ∧ (y % 100 ≠ 0 ∨ y % 400 = 0)) : lp y = 1 := by unfold lp; rw [if_pos h]
theorem lp_zero {y : Int} (h : ¬ (y % 4 = 0 ∧ (y % 100 ≠ 0 ∨ y % 400 = 0))) : lp y = 0 := by unfold lp; rw [if_neg h]
theorem gbeg_room {y : Int} (h : -16000000 ≤ y ∧ y ≤ 16000000) : -6000000000 ≤ gbeg y ∧ gbeg y ≤ 6000000000 := by unfold gbeg; omega
theorem gbeg_step (y : Int) : gbeg (y + 1) = gbeg y + 365 + lp y := by
  unfold gbeg lp
  split <;> omega
abbrev mkB (b : Bool) (_ : Tok) : Value := .bool b
noncomputable abbrev mkF (k : Int) (t : Tok) : Value := .float (fq k) t
abbrev mkI (k : Int) (t : Tok) : Value := .int k t
abbrev GV (y m d : Int) : Prop := 1 ≤ d ∧ d ≤ 31 ∧ (m = 2 → d ≤ 28 + lp y) ∧ (m = 4 ∨ m = 6 ∨ m = 9 ∨ m = 11 → d ≤ 30)
abbrev GDay (n y m d : Int) : Prop := GV y m d ∧ 1 ≤ m ∧ m ≤ 12 ∧ -6000000 ≤ y ∧ y ≤ 6000000 ∧ 0 ≤ lp y ∧ lp y ≤ 1 ∧ ((m ≤ 2 ∧ n = gbeg y + (367 * m - 362) / 12 + d - 1) ∨ (2 < m ∧ n = gbeg y + (367 * m - 362) / 12 + d - 3 + lp y))
abbrev GYear (n Y : Int) : Prop := -6000000 ≤ Y ∧ Y ≤ 6000000 ∧ gbeg Y ≤ n ∧ n < gbeg Y + 365 + lp Y ∧ 0 ≤ lp Y ∧ lp Y ≤ 1
theorem greg_year {n q r1 c r2 u r3 v s1 s2 s Y D : Int} (hq : q = D / (4 * 146097)) (h1 : r1 = D % (4 * 146097)) (hc : c = r1 / (4 * 36524)) (h2 : r2 = r1 % (4 * 36524)) (hu : u = r2 / (4 * 1461)) (h3 : r3 = r2 % (4 * 1461)) (hv : v = r3 / (4 * 365))
    (e1 : s1 = q * 400 + c * 100) (e2 : s2 = s1 + u * 4) (e3 : s = s2 + v) (hD : D = 4 * n - 4 * 1721426) (hn : -2000000000 ≤ n ∧ n ≤ 2000000000) (hY : (Y = s + 1 ∧ c ≠ 4 ∧ v ≠ 4) ∨ (Y = s ∧ (c = 4 ∨ v = 4))) : GYear n Y := by
  have hD2 : D = 584388 * q + 146096 * c + 5844 * u + r3 := by omega
  have hr3 : 0 ≤ r3 ∧ r3 < 5844 := by omega
  have hr2 : 0 ≤ r2 ∧ r2 < 146096 := by omega
  have hr1 : 0 ≤ r1 ∧ r1 < 584388 := by omega
  have hc4 : 0 ≤ c ∧ c ≤ 4 := by omega
  have hc5 : c = 4 → r2 < 4 := by omega
  have hc6 : c = 4 → u = 0 := by omega
  have hc7 : c = 4 → r3 < 4 := by omega
  have hu24 : 0 ≤ u ∧ u ≤ 24 := by omega
  have hu25 : u = 24 → r3 < 5840 := by omega
  have hv4 : 0 ≤ v ∧ v ≤ 4 := by omega
  have hv5 : 1460 * v ≤ r3 ∧ r3 < 1460 * v + 1460 := by omega
  have hv6 : c = 4 → v = 0 := by omega
  have hqq : 584388 * q ≤ D ∧ D < 584388 * q + 584388 := by omega
  clear hq h1 hc h2 h3 hu hv
  obtain ⟨l0, l1⟩ := lp01 Y
  rcases hY with ⟨hY, n1, n2⟩ | ⟨hY, n1⟩
  · have k1 : (Y - 1) / 400 = q := by omega
    have k2 : (Y - 1) / 100 = 4 * q + c := by omega
    have k3 : (Y - 1) / 4 = 100 * q + 25 * c + u := by omega
    have hg : gbeg Y = 1721426 + 365 * (Y - 1) + (100 * q + 25 * c + u) - (4 * q + c) + q := by unfold gbeg; rw [k1, k2, k3]
    clear k1 k2 k3
    exact ⟨by omega, by omega, by omega, by omega, l0, l1⟩
  · by_cases n2 : c = 4
    · have n3 : u = 0 ∧ v = 0 := by omega
      have k1 : (Y - 1) / 400 = q := by omega
      have k2 : (Y - 1) / 100 = 4 * q + 3 := by omega
      have k3 : (Y - 1) / 4 = 100 * q + 99 := by omega
      have hg : gbeg Y = 1721426 + 365 * (Y - 1) + (100 * q + 99) - (4 * q + 3) + q := by unfold gbeg; rw [k1, k2, k3]
      clear k1 k2 k3
      have k4 : Y = 400 * q + 400 := by omega
      have hl : lp Y = 1 := lp_one ⟨by omega, Or.inr (by omega)⟩
      exact ⟨by omega, by omega, by omega, by omega, l0, l1⟩
    · have n3 : v = 4 := by omega
      have n4 : u ≤ 23 := by omega
      have k1 : (Y - 1) / 400 = q := by omega
      have k2 : (Y - 1) / 100 = 4 * q + c := by omega
      have k3 : (Y - 1) / 4 = 100 * q + 25 * c + u := by omega
      have hg : gbeg Y = 1721426 + 365 * (Y - 1) + (100 * q + 25 * c + u) - (4 * q + c) + q := by unfold gbeg; rw [k1, k2, k3]
      clear k1 k2 k3
      have k4 : Y = 400 * q + 100 * c + 4 * u + 4 := by omega
      have hl : lp Y = 1 := lp_one ⟨by omega, Or.inl (by omega)⟩
      exact ⟨by omega, by omega, by omega, by omega, l0, l1⟩
theorem greg_end {n Y a c7 c6 c5 c4 m x c2 c1 d w : Int} (hY : GYear n Y) (pa : (a = 0 ∧ n < gbeg Y + 58 + lp Y) ∨ (gbeg Y + 58 + lp Y ≤ n ∧ a = 2 - lp Y)) (h6 : c6 = c7 + 4 * a) (h5 : c5 = c6 * 12) (h4 : c4 = c5 + 4 * 373) (hm : m = c4 / (4 * 367))
    (p : (m ≤ 2 ∧ x = 4 * (gbeg Y + (367 * m - 362) / 12 + 1 - 1) - 2) ∨ (2 < m ∧ x = 4 * (gbeg Y + (367 * m - 362) / 12 + 1 - 3 + lp Y) - 2)) (h2 : c2 = w - x) (h1 : c1 = c2 / 4) (hd : d = c1 + 1) (h7 : c7 = 4 * (n - gbeg Y)) (hw : w = 4 * n - 2) : GDay n Y m d := by
  obtain ⟨b1, b2, b3, b4, b5, b6⟩ := hY
  have hm2 : 0 ≤ 48 * (n - gbeg Y + a) + 1492 - 1468 * m ∧ 48 * (n - gbeg Y + a) + 1492 - 1468 * m < 1468 := by omega
  have hwm := Int.mul_ediv_add_emod (367 * m - 362) 12
  have hw0 := Int.emod_nonneg (367 * m - 362) (show (12 : Int) ≠ 0 by decide)
  have hw1 := Int.emod_lt_of_pos (367 * m - 362) (show (0 : Int) < 12 by decide)
  generalize (367 * m - 362) / 12 = e at *
  generalize (367 * m - 362) % 12 = r at *
  have hm12 : 1 ≤ m ∧ m ≤ 12 := by clear p h2 h1 hd hwm hw0 hw1 hm; omega
  have hdd : (m ≤ 2 ∧ d = n - (gbeg Y + e) + 1) ∨ (2 < m ∧ d = n - (gbeg Y + e - 2 + lp Y) + 1) := by clear hm2 hm pa h6 h5 h4; omega
  clear h2 h1 hd p hm h6 h5 h4 h7 hw
  obtain ⟨m1, m12⟩ := hm12
  have : m = 1 ∨ m = 2 ∨ m = 3 ∨ m = 4 ∨ m = 5 ∨ m = 6 ∨ m = 7 ∨ m = 8 ∨ m = 9 ∨ m = 10 ∨ m = 11 ∨ m = 12 := by omega
  refine ⟨⟨?_, ?_, ?_, ?_⟩, m1, m12, b1, b2, b5, b6, ?_⟩
  · rcases this with h | h | h | h | h | h | h | h | h | h | h | h <;> subst h <;> omega
  · rcases this with h | h | h | h | h | h | h | h | h | h | h | h <;> subst h <;> omega
  · intro h; subst h; omega
  · intro h; rcases h with h | h | h | h <;> subst h <;> omega
  · omega
end
end
section
open PySem PySem.W PySem.Calls PyProof.Rows PySem.Flt
local macro_rules | `(tactic| walk_at "callWith ref") => `(tactic| (k_here; k_dflt (refine' @Held.out _ (cwK ?uk1 ?uk2 ?_ ?uk3 ?uk4)); (case uk1 => k_asm); (case uk2 => k_dflt k_is); (case uk3 => k_dflt rfl); (case uk4 => k_dflt rfl); k_whole))
local macro_rules | `(tactic| walk_at "exec If") => `(tactic| (k_here; (with_reducible refine wpAny_If ?_)))
local macro_rules | `(tactic| walk_at "eval Name") => `(tactic| (k_here; name_kind "globalImplicit"; k_dflt (refine' @Held.out _ (nB ?F ?X ?T ?hx ?hk ?hd ?e ?v ?n ?_); (case F => k_asm); (case X => k_asm); (case T => k_asm); (case e => k_is); (case v => boot_fast); (case n => decide); (case hx => kernel_rfl!); (case hk => rfl); (case hd => decide); k_whole)))
local macro_rules | `(tactic| walk_at "eval Name") => `(tactic| (k_here; name_kind "globalImplicit"; k_dflt (refine' @Held.out _ (nK ?F ?X ?T ?hx ?hk ?hd ?e ?_); (case F => k_asm); (case X => k_asm); (case T => k_asm); (case e => k_is); (case hx => kernel_rfl!); (case hk => rfl); (case hd => decide); k_whole)))
local macro_rules | `(tactic| walk_at "eval Name") => `(tactic| (k_here; name_kind "local"; k_dflt (refine' @Held.out _ (nL ?F ?hx ?hk ?hd ?v ?_); (case F => k_asm); (case v => rfl); (case hx => kernel_rfl!); (case hk => rfl); (case hd => decide); k_whole)))
local macro_rules | `(tactic| walk_at "my sub") => `(tactic| (intro p' hp'; repeat (first | (with_reducible exact hp') | (with_reducible refine List.mem_cons_of_mem _ ?_))))
local macro_rules | `(tactic| walk_at "my fq") => `(tactic| with_reducible (first | rfl | exact c_half | exact c_greg | exact c_copt | exact c_isl | exact c_365 | exact c_29 | exact c_1524))
local macro_rules | `(tactic| walk_at "my sm") => `(tactic| (unfold Sm; omega))
local macro_rules | `(tactic| walk_at "my intro") => `(tactic| (intro c' hc'))
local macro_rules | `(tactic| walk_at "binaryOp Add float float") => `(tactic| (k_dflt (refine' @Held.out _ (q_addh ?x ?y ?a ?b ?_); (case x => walk_at "my fq"); (case y => walk_at "my fq"); (case a => walk_at "my sm"); (case b => walk_at "my sm")); walk_at "my intro"))
local macro_rules | `(tactic| walk_at "inplaceOp Add float float") => `(tactic| (k_dflt (refine' @Held.out _ (q_iaddh ?x ?y ?a ?b ?_); (case x => walk_at "my fq"); (case y => walk_at "my fq"); (case a => walk_at "my sm"); (case b => walk_at "my sm")); walk_at "my intro"))
local macro_rules | `(tactic| walk_at "binaryOp Sub float float") => `(tactic| (k_dflt (refine' @Held.out _ (q_subh ?x ?y ?a ?b ?_); (case x => walk_at "my fq"); (case y => walk_at "my fq"); (case a => walk_at "my sm"); (case b => walk_at "my sm")); walk_at "my intro"))
local macro_rules | `(tactic| walk_at "binaryOp Add float int") => `(tactic| (k_dflt (refine' @Held.out _ (g_add_fih ?n ?_); (case n => omega)))) 
local macro_rules | `(tactic| walk_at "binaryOp Add float int") => `(tactic| (k_dflt (refine' @Held.out _ (q_add_fih ?x ?a ?n ?_); (case x => walk_at "my fq"); (case a => walk_at "my sm"); (case n => omega)); walk_at "my intro"))
local macro_rules | `(tactic| walk_at "binaryOp Add int float") => `(tactic| (k_dflt (refine' @Held.out _ (q_add_ifh ?x ?a ?n ?_); (case x => walk_at "my fq"); (case a => walk_at "my sm"); (case n => omega)); walk_at "my intro"))
local macro_rules | `(tactic| walk_at "binaryOp Sub float int") => `(tactic| (k_dflt (refine' @Held.out _ (q_sub_fih ?x ?a ?n ?_); (case x => walk_at "my fq"); (case a => walk_at "my sm"); (case n => omega)); walk_at "my intro"))
local macro_rules | `(tactic| walk_at "binaryOp Sub int float") => `(tactic| (k_dflt (refine' @Held.out _ (q_sub_ifh ?x ?a ?n ?_); (case x => walk_at "my fq"); (case a => walk_at "my sm"); (case n => omega)); walk_at "my intro"))
local macro_rules | `(tactic| walk_at "inplaceOp Add float int") => `(tactic| (k_dflt (refine' @Held.out _ (q_iadd_fih rfl ?x ?a ?n ?_); (case x => walk_at "my fq"); (case a => walk_at "my sm"); (case n => omega)); walk_at "my intro"))
local macro_rules | `(tactic| walk_at "inplaceOp Add int float") => `(tactic| (k_dflt (refine' @Held.out _ (q_iadd_ifh rfl ?x ?a ?n ?_); (case x => walk_at "my fq"); (case a => walk_at "my sm"); (case n => omega)); walk_at "my intro"))
local macro_rules | `(tactic| walk_at "inplaceOp Sub float int") => `(tactic| (k_dflt (refine' @Held.out _ (q_isub_fih rfl ?x ?a ?n ?_); (case x => walk_at "my fq"); (case a => walk_at "my sm"); (case n => omega)); walk_at "my intro"))
local macro_rules | `(tactic| walk_at "binaryOp Mult float int") => `(tactic| (first
  | (k_dflt (refine' @Held.out _ (q_mul_fih ?x ?a0 ?a ?n ?_); (case x => walk_at "my fq"); (case a0 => omega); (case a => omega); (case n => omega)); walk_at "my intro")
  | (k_dflt (refine' @Held.out _ (q_mul_fph ?x ?a ?n0 ?n ?_); (case x => walk_at "my fq"); (case a => omega); (case n0 => omega); (case n => omega)); walk_at "my intro")))
local macro_rules | `(tactic| walk_at "binaryOp Mult int float") => `(tactic| (k_dflt (refine' @Held.out _ (q_mul_pfh ?x ?a ?n0 ?n ?_); (case x => walk_at "my fq"); (case a => omega); (case n0 => omega); (case n => omega)); walk_at "my intro"))
local macro_rules | `(tactic| walk_at "binaryOp Div float int") => `(tactic| (k_dflt (refine' @Held.out _ (q_div_fih rfl ?x ?n0 ?n ?_); (case x => walk_at "my fq"); (case n0 => omega); (case n => omega)))) 
local macro_rules | `(tactic| walk_at "binaryOp Mod float int") => `(tactic| (k_dflt (refine' @Held.out _ (q_mod_fih rfl ?x ?a ?n0 ?n ?_); (case x => walk_at "my fq"); (case a => walk_at "my sm"); (case n0 => omega); (case n => omega)); walk_at "my intro"))
local macro_rules | `(tactic| walk_at "binaryOp Div int int") => `(tactic| (k_dflt (refine' @Held.out _ (q_div_iih rfl ?b ?a ?_); (case b => omega); (case a => omega)))) 
local macro_rules | `(tactic| walk_at "call builtin:math.floor") => `(tactic| ((with_reducible show wpAny _ _ (call _ [Value.float _ _]) _ _ _); first
  | (k_dflt (refine' @Held.out _ (q_floorh rfl ?x ?a ?_); (case x => walk_at "my fq"); (case a => walk_at "my sm")); walk_at "my intro")
  | (k_dflt (refine' @Held.out _ (q_floor_divh rfl ?x ?a ?b ?b2 ?k ?_); (case x => with_reducible rfl); (case a => walk_at "my sm"); (case b => omega); (case b2 => omega); (case k => omega)); walk_at "my intro")
  | (k_dflt (refine' @Held.out _ (q_floor_gsumh rfl ?x ?c ?n0 ?n1 ?a ?l0 ?l1 ?d0 ?d1 ?_); (case x => with_reducible rfl); (case c => with_reducible rfl); (case a => with_reducible rfl); (case n0 => omega); (case n1 => omega); (case l0 => omega); (case l1 => omega); (case d0 => omega); (case d1 => omega)); walk_at "my intro")
  | (k_dflt (refine' @Held.out _ (q_floor_frach rfl ?x ?a ?b ?b2 ?k ?_); (case x => with_reducible rfl); (case a => walk_at "my sm"); (case b => omega); (case b2 => omega); (case k => omega)); walk_at "my intro")))
local macro_rules | `(tactic| walk_at "binaryOp Div float float") => `(tactic| first
  | (k_dflt (refine' @Held.out _ (q_div_ffh rfl ?x ?y ?b ?b0 ?_); (case x => walk_at "my fq"); (case y => walk_at "my fq"); (case b => decide); (case b0 => decide)); (try dsimp only))
  | (k_dflt (refine' @Held.out _ (g_div_ffh rfl ?y ?b ?b0 ?_); (case y => walk_at "my fq"); (case b => decide); (case b0 => decide)))) 
local macro_rules | `(tactic| walk_at "call builtin:min") => `(tactic| (k_here; (with_reducible show wpAny _ _ (call _ [Value.int _ _, Value.int _ _]) _ _ _); k_dflt (refine' @Held.out _ (q_minh rfl ?F ?N ?_); (case F => k_asm); (case N => k_asm)); intro c' t' h' tk' hc' F' N')) 
local macro_rules | `(tactic| walk_at "call builtin:math.ceil") => `(tactic| ((with_reducible show wpAny _ _ (call _ [Value.float _ _]) _ _ _); first
  | (k_dflt (refine' @Held.out _ (q_ceilh rfl ?x ?a ?_); (case x => walk_at "my fq"); (case a => walk_at "my sm")); walk_at "my intro")
  | (k_dflt (refine' @Held.out _ (q_ceil_divh rfl ?x ?a ?b ?b2 ?k ?_); (case x => with_reducible rfl); (case a => walk_at "my sm"); (case b => omega); (case b2 => omega); (case k => omega)); walk_at "my intro")))
local macro_rules | `(tactic| walk_at "call builtin:math.trunc") => `(tactic| ((with_reducible show wpAny _ _ (call _ [Value.float _ _]) _ _ _); (k_dflt (refine' @Held.out _ (q_trunch rfl ?x ?z ?a ?_); (case x => walk_at "my fq"); (case z => omega); (case a => walk_at "my sm")); walk_at "my intro")))
local macro_rules | `(tactic| walk_at "call type:int") => `(tactic| ((with_reducible show wpAny _ _ (call _ [Value.float _ _]) _ _ _); (k_dflt (refine' @Held.out _ (q_inth rfl ?x ?z ?a ?_); (case x => walk_at "my fq"); (case z => omega); (case a => walk_at "my sm")); walk_at "my intro")))
local macro_rules | `(tactic| walk_at "compareOp Lt float int") => `(tactic| (k_dflt (refine' @Held.out _ (q_lt_fih ?x ?a ?_); (case x => walk_at "my fq"); (case a => walk_at "my sm")))) 

local macro_rules | `(tactic| walk_at "eval Call Name") => `(tactic| ((with_reducible show wpAny _ _ (eval (Expr.Call (Expr.Name _ _) _ [] _) _) _ _ _); refine Call_ ?_))
local macro_rules | `(tactic| walk_at "eval Call Name") => `(tactic| ((with_reducible show wpAny _ _ (eval (Expr.Call (Expr.Name _ _) _ [] _) _) _ _ _); refine Call_ ?_))
local macro_rules | `(tactic| walk_at "binaryOp Mod int int") => `(tactic| (k_dflt (refine' @Held.out _ (q_mod_iih ?b ?_); (case b => first | decide | omega)); walk_at "my intro"))
local macro_rules | `(tactic| walk_at "binaryOp FloorDiv int int") => `(tactic| (k_dflt (refine' @Held.out _ (q_fdiv_iih ?b ?b2 ?_); (case b => first | decide | omega); (case b2 => first | decide | omega)); walk_at "my intro"))
local macro_rules | `(tactic| walk_at "compareOp In int ref") => `(tactic| (k_here; k_dflt (refine' @Held.out _ (q_in30h ?F ?X ?e ?h1 ?h0); (case F => k_asm); (case X => k_asm); (case e => k_is)); all_goals (intro hc'; (try dsimp only))))
local macro_rules | `(tactic| walk_at "my fact") => `(tactic| ((try simp only [bne_iff_ne, ne_eq, beq_iff_eq, bne_eq_false_iff_eq, beq_eq_false_iff_ne, decide_eq_true_eq, decide_eq_false_iff_not, Bool.not_eq_true, Bool.not_eq_false, Bool.true_eq_false, Bool.false_eq_true] at *); (try dsimp only); all_goals first | trivial | omega | (intros; omega)))
local macro_rules | `(tactic| walk_at "my begin") => `(tactic| (k_fill; intros; rename_i hret; (refine wpAny_call ?_); k_dflt cell_enter))
local macro_rules | `(tactic| walk_at "my endB") => `(tactic| (refine' con_retB (by assumption) (by assumption) ?N ?S ?P1 ?P0; (case N => assumption); (case S => walk_at "my sub"); (case P1 => (intro hb; walk_at "my fact")); (case P0 => (intro hb; walk_at "my fact"))))
local macro_rules | `(tactic| walk_at "ite") => `(tactic| first
  | with_reducible refine ite_tt ?_
  | with_reducible refine ite_ff ?_
  | with_reducible refine split_not ?_
  | ((with_reducible refine split_ine ?_ ?_) <;> intro hc' <;> (try (law_purse 100000 => (exfalso; omega))))
  | ((with_reducible refine split_ieq ?_ ?_) <;> intro hc' <;> (try (law_purse 100000 => (exfalso; omega))))
  | ((with_reducible refine split_dec ?_ ?_) <;> intro hc' <;> (try (law_purse 100000 => (exfalso; omega)))))
/-- a way's end: the value is handed back -/
local macro_rules | `(tactic| walk_at "my endF") => `(tactic| (refine' con_retF (by assumption) (by assumption) ?N ?S ?P; (case N => assumption); (case S => walk_at "my sub"))) 
local macro_rules | `(tactic| walk_at "my endI") => `(tactic| (refine' con_retI (by assumption) (by assumption) ?N ?S ?P; (case N => assumption); (case S => walk_at "my sub"))) 
local macro_rules | `(tactic| walk_at "my endT") => `(tactic| (refine' con_retT (by assumption) (by assumption) ?N ?M ?S ?L ?P; (case N => assumption); (case M => k_mem); (case S => walk_at "my sub"); (case L => first | with_reducible assumption | ((with_reducible rename (_ ∧ AllLt _ _) => hl9); exact hl9.2) | kcu_lt))) 
local macro_rules | `(tactic| walk_at "my set") => `(tactic| (refine' jv_set (by assumption) (by assumption) ?S ?P; (case S => walk_at "my sub"))) 
local macro_rules | `(tactic| walk_at "my keep") => `(tactic| (refine' jv_keep (by assumption) (by with_unfolding_all rfl) (by assumption) ?S ?P; (case S => walk_at "my sub"))) 
local macro_rules | `(tactic| walk_at "my endP") => `(tactic| (refine' con_retP (by assumption) (by assumption) ?N ?M ?S ?L ?P; (case N => assumption); (case M => k_mem); (case S => walk_at "my sub"); (case L => first | with_reducible assumption | ((with_reducible rename (_ ∧ AllLt _ _) => hl9); exact hl9.2) | kcu_lt); (try dsimp only)))

section
open PySem PySem.W PySem.Calls PyProof.Rows PySem.Flt
theorem rs_CG : True := by
  w_top off
  trivial
section
variable {w : World} {mean : ExcName → Option Value} {mg mb : Str → Option Value}

theorem c_isleap (y : Int) (t : Tok) : Con w mean mg mb 102 1 [.int y t] True mkB (fun b => match b with | true => lp y = 1 | false => lp y = 0) := by
  refine Con.mk ?_
  walk_at "my begin"
  k_steps
  all_goals (refine' con_retB (by assumption) (by assumption) ?N ?S ?P1 ?P0; (case N => assumption); (case S => walk_at "my sub"); (case P1 => (intro hb; (try simp only [bne_iff_ne, ne_eq, beq_iff_eq] at hb); exact lp_one (by omega))); (case P0 => (intro hb; (try simp only [bne_eq_false_iff_eq, beq_eq_false_iff_ne, ne_eq] at hb); exact lp_zero (by omega))))
local macro_rules | `(tactic| walk_at "call ref") => `(tactic| (k_here; (with_reducible show wpAny _ _ (call (Value.ref 102) _) _ _ _); k_dflt (refine' @Held.out _ (Con.useh (c_isleap _ _) ?k1 ?k2 ?k3 ?k4 ?k5 ?kK ?kd ?ku ?kp ?_); (case k1 => k_asm); (case k2 => k_asm); (case k3 => k_asm); (case k4 => k_asm); (case k5 => k_asm); (case kK => first | exact rfl | assumption); (case kd => ktr_room); (case ku => ktr_units); (case kp => first | trivial | assumption | omega)); intro x9 t9 h9 tk9 p9 F9 N9; cases x9 <;> (try dsimp only at p9) <;> (try dsimp only)))

theorem c_legal (y m d : Int) (t u v : Tok) : Con w mean mg mb 109 2 [.int y t, .int m u, .int d v] (GV y m d) mkB (fun b => match b with | true => True | false => False) := by
  refine Con.mk ?_
  walk_at "my begin"
  k_steps
  all_goals walk_at "my endB"
local macro_rules | `(tactic| walk_at "call ref") => `(tactic| (k_here; (with_reducible show wpAny _ _ (call (Value.ref 109) _) _ _ _); k_dflt (refine' @Held.out _ (Con.useh (c_legal _ _ _ _ _ _) ?k1 ?k2 ?k3 ?k4 ?k5 ?kK ?kd ?ku ?kp ?_); (case k1 => k_asm); (case k2 => k_asm); (case k3 => k_asm); (case k4 => k_asm); (case k5 => k_asm); (case kK => first | exact rfl | assumption); (case kd => ktr_room); (case ku => ktr_units); (case kp => first | trivial | assumption | omega)); intro x9 t9 h9 tk9 p9 F9 N9; cases x9 <;> (try dsimp only at p9) <;> (try dsimp only)))

theorem c_to_jd (y m d : Int) (t u v : Tok) : Con w mean mg mb 116 3 [.int y t, .int m u, .int d v] (GV y m d ∧ 1 ≤ m ∧ m ≤ 12 ∧ -16000000 ≤ y ∧ y ≤ 16000000) mkF
    (fun k => ∃ g, g = gbeg y ∧ (-6000000000 ≤ g ∧ g ≤ 6000000000) ∧ ((m ≤ 2 ∧ k = 4 * (g + (367 * m - 362) / 12 + d - 1) - 2) ∨ (2 < m ∧ k = 4 * (g + (367 * m - 362) / 12 + d - 3 + lp y) - 2))) := by
  refine Con.mk ?_
  walk_at "my begin"
  k_steps
  all_goals walk_at "my endF"
  all_goals (refine ⟨_, rfl, gbeg_room (by omega), ?_⟩; unfold gbeg; omega)
theorem c_to_jd11 (y : Int) (t u v : Tok) : Con w mean mg mb 116 3 [.int y t, .int 1 u, .int 1 v] (-16000000 ≤ y ∧ y ≤ 16000000) mkF
    (fun k => ∃ g, g = gbeg y ∧ (-6000000000 ≤ g ∧ g ≤ 6000000000) ∧ k = 4 * g - 2) := by
  refine Con.mk ?_
  intro dp un gd cn cs a ccd cl outer A₀ base h₀ L m news s Q E B F X N T hk hd hu hp hret
  refine @Held.out _ (Con.useh (c_to_jd y 1 1 t u v) B F X N T hk hd hu (by omega) fun x t' h' tk' p F' N' => hret x t' h' tk' ?_ F' N')
  obtain ⟨g, hg, hb, p⟩ := p
  exact ⟨g, hg, hb, by omega⟩
end
end
section
open PySem PySem.W PySem.Calls PyProof.Rows PySem.Flt
theorem rs_CC : True := by
  w_top off
  trivial
section
variable {w : World} {mean : ExcName → Option Value} {mg mb : Str → Option Value}
local macro_rules | `(tactic| walk_at "binaryOp Add int bool") => `(tactic| (k_dflt (refine' @Held.out _ (q_add_ibh ?_)); (intro c' hc'; (try dsimp only [cond_true, cond_false] at hc'); (try dsimp only))))
local macro_rules | `(tactic| walk_at "binaryOp Sub int bool") => `(tactic| (k_dflt (refine' @Held.out _ (q_sub_ibh ?_)); (intro c' hc'; (try dsimp only [cond_true, cond_false] at hc'); (try dsimp only))))
local macro_rules | `(tactic| walk_at "binaryOp Add int int") => `(tactic| (k_dflt (refine' @Held.out _ (q_add_iih ?_)); walk_at "my intro"))
local macro_rules | `(tactic| walk_at "inplaceOp Add int int") => `(tactic| (k_dflt (refine' @Held.out _ (q_iadd_iih ?_)); walk_at "my intro"))
local macro_rules | `(tactic| walk_at "binaryOp Sub int int") => `(tactic| (k_dflt (refine' @Held.out _ (q_sub_iih ?_)); walk_at "my intro"))
theorem c_to_copt (y m d : Int) (t u v : Tok) : Con w mean mg mb 130 2 [.int y t, .int m u, .int d v] (-6000000 ≤ y ∧ y ≤ 6000000 ∧ -100 ≤ m ∧ m ≤ 100 ∧ -1000 ≤ d ∧ d ≤ 1000) mkF
    (fun k => k = 4 * (d + 30 * (m - 1) + 365 * (y - 1) + y / 4 + 1825029) - 2) := by
  refine Con.mk ?_
  walk_at "my begin"
  k_steps
  all_goals walk_at "my endF"
  all_goals omega
local macro_rules | `(tactic| walk_at "call ref") => `(tactic| (k_here; (with_reducible show wpAny _ _ (call (Value.ref 130) _) _ _ _); k_dflt (refine' @Held.out _ (Con.useh (c_to_copt _ _ _ _ _ _) ?k1 ?k2 ?k3 ?k4 ?k5 ?kK ?kd ?ku ?kp ?_); (case k1 => k_asm); (case k2 => k_asm); (case k3 => k_asm); (case k4 => k_asm); (case k5 => k_asm); (case kK => first | exact rfl | assumption); (case kd => ktr_room); (case ku => ktr_units); (case kp => first | trivial | assumption | omega)); intro x9 t9 h9 tk9 p9 F9 N9; (try dsimp only at p9); (try dsimp only)))

abbrev CDay (n y m d : Int) : Prop := 1 ≤ m ∧ m ≤ 13 ∧ 1 ≤ d ∧ d ≤ 30 ∧ (m = 13 → d ≤ 5 + (y + 1) / 4 - y / 4) ∧ n = d + 30 * (m - 1) + 365 * (y - 1) + y / 4 + 1825029 ∧ -6000000 ≤ y ∧ y ≤ 6000000
theorem c_from_copt (n : Int) (k : Int) (t : Tok) : ConT w mean mg mb 137 3 [.float (fq k) t] (k = 4 * n - 2 ∧ -2000000000 ≤ n ∧ n ≤ 2000000000) (.type "tuple") (CDay n) := by
  refine ConT.mk ?_
  walk_at "my begin"
  k_steps
  all_goals walk_at "my endT"
  all_goals (refine ⟨by omega, by omega, by omega, by omega, by omega, by omega, by omega, by omega⟩)
end
end
section
open PySem PySem.W PySem.Calls PyProof.Rows PySem.Flt
theorem rs_CI : True := by
  w_top off
  trivial
section
variable {w : World} {mean : ExcName → Option Value} {mg mb : Str → Option Value}
local macro_rules | `(tactic| walk_at "binaryOp Add int bool") => `(tactic| (k_dflt (refine' @Held.out _ (q_add_ibh ?_)); (intro c' hc'; (try dsimp only [cond_true, cond_false] at hc'); (try dsimp only))))
local macro_rules | `(tactic| walk_at "binaryOp Sub int bool") => `(tactic| (k_dflt (refine' @Held.out _ (q_sub_ibh ?_)); (intro c' hc'; (try dsimp only [cond_true, cond_false] at hc'); (try dsimp only))))
local macro_rules | `(tactic| walk_at "binaryOp Add int int") => `(tactic| (k_dflt (refine' @Held.out _ (q_add_iih ?_)); walk_at "my intro"))
local macro_rules | `(tactic| walk_at "inplaceOp Add int int") => `(tactic| (k_dflt (refine' @Held.out _ (q_iadd_iih ?_)); walk_at "my intro"))
local macro_rules | `(tactic| walk_at "binaryOp Sub int int") => `(tactic| (k_dflt (refine' @Held.out _ (q_sub_iih ?_)); walk_at "my intro"))
theorem ceil_half {c z x : Int} (h : c = -(-z / 4)) (hz : z = 118 * x) : c = (59 * x + 1) / 2 := by subst hz; omega
theorem floor_30 {f z y : Int} (h : f = z / 30) (hz : z = 3 + 11 * y) : f = (3 + 11 * y) / 30 := by rw [h, hz]
theorem c_to_isl (y m d : Int) (t u v : Tok) : Con w mean mg mb 158 2 [.int y t, .int m u, .int d v] (-6000000 ≤ y ∧ y ≤ 6000000 ∧ -100 ≤ m ∧ m ≤ 100 ∧ -1000 ≤ d ∧ d ≤ 1000) mkF
    (fun k => ∃ e f, e = (59 * (m - 1) + 1) / 2 ∧ f = (3 + 11 * y) / 30 ∧ k = 4 * (d + e + 354 * (y - 1) + f + 1948439) - 2) := by
  refine Con.mk ?_
  walk_at "my begin"
  k_steps
  all_goals walk_at "my endF"
  all_goals (refine ⟨_, _, ceil_half (by assumption) (by omega), floor_30 (by assumption) (by omega), ?_⟩; omega)
local macro_rules | `(tactic| walk_at "call ref") => `(tactic| (k_here; (with_reducible show wpAny _ _ (call (Value.ref 158) _) _ _ _); k_dflt (refine' @Held.out _ (Con.useh (c_to_isl _ _ _ _ _ _) ?k1 ?k2 ?k3 ?k4 ?k5 ?kK ?kd ?ku ?kp ?_); (case k1 => k_asm); (case k2 => k_asm); (case k3 => k_asm); (case k4 => k_asm); (case k5 => k_asm); (case kK => first | exact rfl | assumption); (case kd => ktr_room); (case ku => ktr_units); (case kp => first | trivial | assumption | omega)); intro x9 t9 h9 tk9 ⟨e9, f9, q9, r9, p9⟩ F9 N9; (try dsimp only at p9); (try dsimp only)))

abbrev IDay (n y m d : Int) : Prop := 1 ≤ m ∧ m ≤ 12 ∧ 1 ≤ d ∧ d ≤ 30 ∧ (m < 12 → d ≤ (59 * m + 1) / 2 - (59 * (m - 1) + 1) / 2) ∧ (m = 12 → d ≤ 29 + (3 + 11 * (y + 1)) / 30 - (3 + 11 * y) / 30) ∧ n = d + (59 * (m - 1) + 1) / 2 + 354 * (y - 1) + (3 + 11 * y) / 30 + 1948439 ∧ -6000000 ≤ y ∧ y ≤ 6000000
theorem isl_year {n y c3 f : Int} (h5 : c3 = 120 * (n - 1948440) + 4 * 10646) (hy : y = c3 / (4 * 10631)) (hf : f = (3 + 11 * y) / 30) :
    354 * (y - 1) + f + 1948440 ≤ n ∧ n ≤ 354 * (y - 1) + f + 1948440 + 353 + ((3 + 11 * (y + 1)) / 30 - f) := by omega
theorem isl_end {n y m d c3 c1 c0 x' e f z : Int} (hy : y = c3 / (4 * 10631)) (h5 : c3 = 120 * (n - 1948440) + 4 * 10646) (hn : -2000000000 ≤ n ∧ n ≤ 2000000000) (hf : f = (3 + 11 * y) / 30) (h0 : c0 = 4 * (n - (354 * (y - 1) + f + 1948440)) - 116)
    (hz : z = -(-c0 / 118)) (hm : (z + 1 < 12 ∧ m = z + 1) ∨ (12 ≤ z + 1 ∧ m = 12)) (he : e = (59 * (m - 1) + 1) / 2) (hx : x' = 4 * (1 + e + 354 * (y - 1) + f + 1948439) - 2) (h1 : c1 = (4 * n - 2 - x') / 4) (hd : d = c1 + 1) : IDay n y m d := by
  obtain ⟨k1, k2⟩ := isl_year h5 hy hf
  have hyr : -6000000 ≤ y ∧ y ≤ 6000000 := by omega
  have hl : 0 ≤ (3 + 11 * (y + 1)) / 30 - f ∧ (3 + 11 * (y + 1)) / 30 - f ≤ 1 := by omega
  clear h5 hy
  generalize hf1 : (3 + 11 * (y + 1)) / 30 = f1 at *
  have hdd : d = n - (354 * (y - 1) + f + 1948440) - e + 1 := by clear hm hz he h0 hf hf1; omega
  have hnn : n = d + e + 354 * (y - 1) + f + 1948439 := by omega
  have hm1 : 1 ≤ m ∧ m ≤ 12 := by clear hdd hnn hx h1 hd he hf hf1; omega
  have hbd : 1 ≤ d ∧ d ≤ 30 ∧ (m < 12 → d ≤ (59 * m + 1) / 2 - e) ∧ (m = 12 → d ≤ 29 + f1 - f) := by
    clear hnn hx h1 hd hf hf1
    have : m = 1 ∨ m = 2 ∨ m = 3 ∨ m = 4 ∨ m = 5 ∨ m = 6 ∨ m = 7 ∨ m = 8 ∨ m = 9 ∨ m = 10 ∨ m = 11 ∨ m = 12 := by omega
    generalize hqq : n - (354 * (y - 1) + f + 1948440) = q at *
    have hq : 0 ≤ q ∧ q ≤ 353 + (f1 - f) := by omega
    clear k1 k2 hyr hqq
    rcases this with h | h | h | h | h | h | h | h | h | h | h | h <;> subst h <;> omega
  obtain ⟨b1, b2, b3, b4⟩ := hbd
  exact ⟨hm1.1, hm1.2, b1, b2, by rw [← he]; exact b3, by rw [← hf, hf1]; exact b4, by rw [← he, ← hf]; exact hnn, hyr.1, hyr.2⟩
theorem c_from_isl (n : Int) (k : Int) (t : Tok) : ConT w mean mg mb 165 3 [.float (fq k) t] (k = 4 * n - 2 ∧ -2000000000 ≤ n ∧ n ≤ 2000000000) (.type "tuple") (IDay n) := by
  refine ConT.mk ?_
  walk_at "my begin"
  k_steps
  all_goals walk_at "my endT"
  all_goals (refine isl_end (by assumption) (by omega) (by omega) (by assumption) ?_ (by assumption) ?_ (by assumption) (by assumption) ?_ (by assumption) <;> omega)
end
end
section
open PySem PySem.W PySem.Calls PyProof.Rows PySem.Flt
theorem rs_CJ : True := by
  w_top off
  trivial
section
variable {w : World} {mean : ExcName → Option Value} {mg mb : Str → Option Value}
local macro_rules | `(tactic| walk_at "binaryOp Add int bool") => `(tactic| (k_dflt (refine' @Held.out _ (q_add_ibh ?_)); (intro c' hc'; (try dsimp only [cond_true, cond_false] at hc'); (try dsimp only))))
local macro_rules | `(tactic| walk_at "binaryOp Sub int bool") => `(tactic| (k_dflt (refine' @Held.out _ (q_sub_ibh ?_)); (intro c' hc'; (try dsimp only [cond_true, cond_false] at hc'); (try dsimp only))))
local macro_rules | `(tactic| walk_at "binaryOp Add int int") => `(tactic| (k_dflt (refine' @Held.out _ (q_add_iih ?_)); walk_at "my intro"))
local macro_rules | `(tactic| walk_at "inplaceOp Add int int") => `(tactic| (k_dflt (refine' @Held.out _ (q_iadd_iih ?_)); walk_at "my intro"))
local macro_rules | `(tactic| walk_at "binaryOp Sub int int") => `(tactic| (k_dflt (refine' @Held.out _ (q_sub_iih ?_)); walk_at "my intro"))
local macro_rules | `(tactic| walk_at "binaryOp Sub int float") => `(tactic| first
  | (k_dflt (refine' @Held.out _ (q_sub_ifh ?x ?a ?n ?_); (case x => walk_at "my fq"); (case a => walk_at "my sm"); (case n => omega)); walk_at "my intro")
  | (k_dflt (refine' @Held.out _ (g_sub_ifh ?n ?_); (case n => omega)); (try dsimp only)))
local macro_rules | `(tactic| walk_at "binaryOp Div int float") => `(tactic| (k_dflt (refine' @Held.out _ (j_div_ifh rfl ?x ?n ?_); (case x => with_reducible rfl); (case n => omega)); (try dsimp only)))
local macro_rules | `(tactic| walk_at "binaryOp Mult float int") => `(tactic| first
  | (k_dflt (refine' @Held.out _ (j_mul_fih ?x ?n ?_); (case x => with_reducible rfl); (case n => omega)); (try dsimp only))
  | (k_dflt (refine' @Held.out _ (q_mul_fih ?x ?a0 ?a ?n ?_); (case x => walk_at "my fq"); (case a0 => omega); (case a => omega); (case n => omega)); walk_at "my intro"))
local macro_rules | `(tactic| walk_at "call builtin:math.floor") => `(tactic| ((with_reducible show wpAny _ _ (call _ [Value.float _ _]) _ _ _); first
  | (k_dflt (refine' @Held.out _ (j_floor_cumh rfl ?x ?n0 ?n1 ?_); (case x => with_reducible rfl); (case n0 => omega); (case n1 => omega)); walk_at "my intro")
  | (k_dflt (refine' @Held.out _ (j_floor_monthh rfl ?x ?n0 ?n1 ?_); (case x => with_reducible rfl); (case n0 => omega); (case n1 => omega)); walk_at "my intro")
  | (k_dflt (refine' @Held.out _ (j_floor_centh rfl ?x ?b ?_); (case x => with_reducible rfl); (case b => omega)); walk_at "my intro")
  | (k_dflt (refine' @Held.out _ (q_floorh rfl ?x ?a ?_); (case x => walk_at "my fq"); (case a => walk_at "my sm")); walk_at "my intro")))
abbrev JVal (y m d : Int) : Prop := 1 ≤ d ∧ d ≤ 31 ∧ (m = 2 → d ≤ 29) ∧ (m = 2 → y % 4 ≠ 0 → d ≤ 28) ∧ (m = 4 ∨ m = 6 ∨ m = 9 ∨ m = 11 → d ≤ 30)
abbrev jnum (y m d : Int) : Int := (1461 * (y + 4716)) / 4 + (306001 * (m + 1)) / 10000 + d - 1524
theorem jdiv4 {e z x : Int} (h : e = z / 4) (hz : z = 1461 * x) : e = (1461 * x) / 4 := by rw [h, hz]
theorem jdiv30 {e z x : Int} (h : e = 306001 * z / 10000) (hz : z = x) : e = (306001 * x) / 10000 := by rw [h, hz]
theorem c_jleap (y : Int) (t : Tok) : Con w mean mg mb 194 1 [.int y t] True mkB (fun b => match b with | true => y % 4 = 0 | false => y % 4 ≠ 0) := by
  refine Con.mk ?_
  walk_at "my begin"
  k_steps
  all_goals walk_at "my endB"
local macro_rules | `(tactic| walk_at "call ref") => `(tactic| (k_here; (with_reducible show wpAny _ _ (call (Value.ref 194) _) _ _ _); k_dflt (refine' @Held.out _ (Con.useh (c_jleap _ _) ?k1 ?k2 ?k3 ?k4 ?k5 ?kK ?kd ?ku ?kp ?_); (case k1 => k_asm); (case k2 => k_asm); (case k3 => k_asm); (case k4 => k_asm); (case k5 => k_asm); (case kK => first | exact rfl | assumption); (case kd => ktr_room); (case ku => ktr_units); (case kp => first | trivial | assumption | omega)); intro x9 t9 h9 tk9 p9 F9 N9; cases x9 <;> (try dsimp only at p9) <;> (try dsimp only)))

theorem c_mlen (y m : Int) (t u : Tok) : Con w mean mg mb 201 2 [.int y t, .int m u] True mkI (fun k => ∀ d, JVal y m d → d ≤ k) := by
  refine Con.mk ?_
  walk_at "my begin"
  k_steps
  all_goals walk_at "my endI"
  all_goals (intro d hd; obtain ⟨j1, j2, j3, j4, j5⟩ := hd; omega)
local macro_rules | `(tactic| walk_at "call ref") => `(tactic| (k_here; (with_reducible show wpAny _ _ (call (Value.ref 201) _) _ _ _); k_dflt (refine' @Held.out _ (Con.useh (c_mlen _ _ _ _) ?k1 ?k2 ?k3 ?k4 ?k5 ?kK ?kd ?ku ?kp ?_); (case k1 => k_asm); (case k2 => k_asm); (case k3 => k_asm); (case k4 => k_asm); (case k5 => k_asm); (case kK => first | exact rfl | assumption); (case kd => ktr_room); (case ku => ktr_units); (case kp => first | trivial | assumption | omega)); intro x9 t9 h9 tk9 p9 F9 N9; (try dsimp only at p9); (try dsimp only); (have q9 := p9 _ (by assumption)); clear p9))

theorem c_jlegal (y m d : Int) (t u v : Tok) : Con w mean mg mb 208 3 [.int y t, .int m u, .int d v] (JVal y m d) mkB (fun b => match b with | true => True | false => False) := by
  refine Con.mk ?_
  walk_at "my begin"
  k_steps
  all_goals walk_at "my endB"
local macro_rules | `(tactic| walk_at "call ref") => `(tactic| (k_here; (with_reducible show wpAny _ _ (call (Value.ref 208) _) _ _ _); k_dflt (refine' @Held.out _ (Con.useh (c_jlegal _ _ _ _ _ _) ?k1 ?k2 ?k3 ?k4 ?k5 ?kK ?kd ?ku ?kp ?_); (case k1 => k_asm); (case k2 => k_asm); (case k3 => k_asm); (case k4 => k_asm); (case k5 => k_asm); (case kK => first | exact rfl | assumption); (case kd => ktr_room); (case ku => ktr_units); (case kp => first | trivial | assumption | omega)); intro x9 t9 h9 tk9 p9 F9 N9; cases x9 <;> (try dsimp only at p9) <;> (try dsimp only)))

theorem c_to_jul (y m d : Int) (t u v : Tok) : Con w mean mg mb 222 4 [.int y t, .int m u, .int d v] (JVal y m d ∧ 1 ≤ m ∧ m ≤ 12 ∧ -6000000 ≤ y ∧ y ≤ 6000000) mkF
    (fun k => ∃ e f, -3000000000 ≤ e ∧ e ≤ 3000000000 ∧ k = 4 * (e + f + d - 1524) - 2 ∧ ((2 < m ∧ e = (1461 * (y + 4716)) / 4 ∧ f = (306001 * (m + 1)) / 10000) ∨ (m ≤ 2 ∧ e = (1461 * (y - 1 + 4716)) / 4 ∧ f = (306001 * (m + 12 + 1)) / 10000))) := by
  refine Con.mk ?_
  walk_at "my begin"
  k_steps
  all_goals walk_at "my endF"
  all_goals first
    | (refine ⟨_, _, ?_, ?_, ?_, Or.inl ⟨by omega, jdiv4 (by assumption) (by omega), jdiv30 (by assumption) (by omega)⟩⟩ <;> omega)
    | (refine ⟨_, _, ?_, ?_, ?_, Or.inr ⟨by omega, jdiv4 (by assumption) (by omega), jdiv30 (by assumption) (by omega)⟩⟩ <;> omega)
abbrev JDay (n y m d : Int) : Prop := JVal y m d ∧ 1 ≤ m ∧ m ≤ 12 ∧ -6000000 ≤ y ∧ y ≤ 6000000 ∧ ((2 < m ∧ n = jnum y m d) ∨ (m ≤ 2 ∧ n = jnum (y - 1) (m + 12) d))
theorem jul_end {n b c d0 e m y d r z q t : Int} (hc : c = (4 * b - 489) / 1461) (hz : z = 1461 * c) (h0' : d0 = z / 4) (he' : e = 10000 * q / 306001) (hq : q = b - d0) (hr : r = 306001 * e / 10000) (hd' : d = t - r) (ht : t = b - d0) (hb : b = n + 1524) (hn : -2000000000 ≤ n ∧ n ≤ 2000000000) (hm : (e < 14 ∧ m = e - 1) ∨ (14 ≤ e ∧ m = e - 13)) (hy : (2 < m ∧ y = c - 4716) ∨ (m ≤ 2 ∧ y = c - 4715)) : JDay n y m d := by
  subst hz
  have h0 : d0 = 1461 * c / 4 := h0'
  subst hq
  have he : e = 10000 * (b - d0) / 306001 := he'
  have hd : d = b - d0 - r := by omega
  clear h0' he' hd' ht
  have k0 : 1461 * c ≤ 4 * b - 489 ∧ 4 * b - 489 < 1461 * c + 1461 := by omega
  have k1 : 123 ≤ b - d0 ∧ b - d0 ≤ 488 := by omega
  have k2 : b - d0 = 488 → c % 4 = 3 := by omega
  have k3 : 4 ≤ e ∧ e ≤ 15 := by clear hc h0 k0 hd hr hm hy; omega
  have hyr : -6000000 ≤ y ∧ y ≤ 6000000 := by clear he hm h0 hr hd k1 k2; omega
  clear hc
  have : e = 4 ∨ e = 5 ∨ e = 6 ∨ e = 7 ∨ e = 8 ∨ e = 9 ∨ e = 10 ∨ e = 11 ∨ e = 12 ∨ e = 13 ∨ e = 14 ∨ e = 15 := by omega
  have hdd : JVal y m d := by
    clear h0 k0 hyr
    generalize b - d0 = q at *
    rcases this with h | h | h | h | h | h | h | h | h | h | h | h <;> subst h <;> omega
  have h12 : 1 ≤ m ∧ m ≤ 12 := by clear this hdd; omega
  refine ⟨hdd, h12.1, h12.2, hyr.1, hyr.2, ?_⟩
  clear hdd
  dsimp only [jnum]
  rcases hm with ⟨_, hm⟩ | ⟨_, hm⟩
  · have e1 : m + 1 = e := by omega
    have e2 : y + 4716 = c := by omega
    rw [e1, e2, ← h0, ← hr]
    omega
  · have e1 : m + 12 + 1 = e := by omega
    have e2 : y - 1 + 4716 = c := by omega
    rw [e1, e2, ← h0, ← hr]
    omega
theorem c_from_jul (n : Int) (k : Int) (t : Tok) : ConT w mean mg mb 215 2 [.float (fq k) t] (k = 4 * n - 2 ∧ -2000000000 ≤ n ∧ n ≤ 2000000000) (.type "tuple") (JDay n) := by
  refine ConT.mk ?_
  walk_at "my begin"
  k_steps
  all_goals walk_at "my endT"
  all_goals (refine jul_end (by assumption) (by assumption) (by assumption) (by assumption) (by assumption) (by assumption) (by assumption) (by assumption) ?_ ?_ ?_ ?_ <;> omega)
end
end
section
open PySem PySem.W PySem.Calls PyProof.Rows PySem.Flt
theorem rs_CH : True := by
  w_top off
  trivial
section
variable {w : World} {mean : ExcName → Option Value} {mg mb : Str → Option Value}
local macro_rules | `(tactic| walk_at "binaryOp Add int bool") => `(tactic| (k_dflt (refine' @Held.out _ (q_add_ibh ?_)); (intro c' hc'; (try dsimp only [cond_true, cond_false] at hc'); (try dsimp only))))
local macro_rules | `(tactic| walk_at "binaryOp Sub int bool") => `(tactic| (k_dflt (refine' @Held.out _ (q_sub_ibh ?_)); (intro c' hc'; (try dsimp only [cond_true, cond_false] at hc'); (try dsimp only))))
local macro_rules | `(tactic| walk_at "binaryOp Add int int") => `(tactic| (k_dflt (refine' @Held.out _ (q_add_iih ?_)); walk_at "my intro"))
local macro_rules | `(tactic| walk_at "inplaceOp Add int int") => `(tactic| (k_dflt (refine' @Held.out _ (q_iadd_iih ?_)); walk_at "my intro"))
local macro_rules | `(tactic| walk_at "binaryOp Sub int int") => `(tactic| (k_dflt (refine' @Held.out _ (q_sub_iih ?_)); walk_at "my intro"))
local macro_rules | `(tactic| walk_at "call ref") => `(tactic| (k_here; (with_reducible show wpAny _ _ (call (Value.ref 102) _) _ _ _); k_dflt (refine' @Held.out _ (Con.useh (c_isleap _ _) ?k1 ?k2 ?k3 ?k4 ?k5 ?kK ?kd ?ku ?kp ?_); (case k1 => k_asm); (case k2 => k_asm); (case k3 => k_asm); (case k4 => k_asm); (case k5 => k_asm); (case kK => first | exact rfl | assumption); (case kd => ktr_room); (case ku => ktr_units); (case kp => first | trivial | assumption | omega)); intro x9 t9 h9 tk9 p9 F9 N9; cases x9 <;> (try dsimp only at p9) <;> (try dsimp only)))
local macro_rules | `(tactic| walk_at "call ref") => `(tactic| (k_here; (with_reducible show wpAny _ _ (call (Value.ref 116) _) _ _ _); k_dflt (refine' @Held.out _ (Con.useh (c_to_jd _ _ _ _ _ _) ?k1 ?k2 ?k3 ?k4 ?k5 ?kK ?kd ?ku ?kp ?_); (case k1 => k_asm); (case k2 => k_asm); (case k3 => k_asm); (case k4 => k_asm); (case k5 => k_asm); (case kK => first | exact rfl | assumption); (case kd => ktr_room); (case ku => ktr_units); (case kp => first | trivial | assumption | omega)); intro x9 t9 h9 tk9 ⟨g9, e9, b9, p9⟩ F9 N9; (try dsimp only at p9); (try dsimp only)))
local macro_rules | `(tactic| walk_at "call ref") => `(tactic| (k_here; (with_reducible show wpAny _ _ (call (Value.ref 116) [Value.int _ _, Value.int 1 _, Value.int 1 _]) _ _ _); k_dflt (refine' @Held.out _ (Con.useh (c_to_jd11 _ _ _ _) ?k1 ?k2 ?k3 ?k4 ?k5 ?kK ?kd ?ku ?kp ?_); (case k1 => k_asm); (case k2 => k_asm); (case k3 => k_asm); (case k4 => k_asm); (case k5 => k_asm); (case kK => first | exact rfl | assumption); (case kd => ktr_room); (case ku => ktr_units); (case kp => first | trivial | assumption | omega)); intro x9 t9 h9 tk9 ⟨g9, e9, b9, p9⟩ F9 N9; (try dsimp only at p9); (try dsimp only)))
local macro_rules | `(tactic| walk_at "exec If") => `(tactic| with_reducible refine stop_if ?_)
local macro_rules | `(tactic| walk_at "my drop") => `(tactic| ((rename ((_ : Int) = _ / (4 * 146097)) => z1; clear z1); (rename ((_ : Int) = _ % (4 * 146097)) => z1; clear z1); (rename ((_ : Int) = _ / (4 * 36524)) => z1; clear z1); (rename ((_ : Int) = _ % (4 * 36524)) => z1; clear z1); (rename ((_ : Int) = _ / (4 * 1461)) => z1; clear z1); (rename ((_ : Int) = _ % (4 * 1461)) => z1; clear z1); (rename ((_ : Int) = _ / (4 * 365)) => z1; clear z1); (rename ((_ : Int) = _ * 400 + _ * 100) => z1; clear z1); (rename ((_ : Int) = _ + _ * 4) => z1; clear z1); (rename ((_ : Int) = _ + _) => z1; clear z1)))
local macro_rules | `(tactic| walk_at "my year") => `(tactic| exact greg_year (by assumption) (by assumption) (by assumption) (by assumption) (by assumption) (by assumption) (by assumption) (by assumption) (by assumption) (by assumption) (by omega) (by omega) (by first | exact Or.inl ⟨by assumption, by assumption, by assumption⟩ | exact Or.inr ⟨rfl, Or.inl (by assumption)⟩ | exact Or.inr ⟨rfl, Or.inr (by assumption)⟩))
theorem c_from_jd (n : Int) (k : Int) (t : Tok) : ConT w mean mg mb 123 4 [.float (fq k) t] (k = 4 * n - 2 ∧ -2000000000 ≤ n ∧ n ≤ 2000000000) (.type "tuple") (GDay n) := by
  refine ConT.mk ?_
  walk_at "my begin"
  k_steps
  refine stop_go (join_if (Str.ofString "year") (GYear n) (by assumption) (by assumption) ?_ ?_)
  · refine wpAny_If ?_
    k_steps
    all_goals first
      | (walk_at "my set"; walk_at "my year")
      | (walk_at "my keep"; walk_at "my year")
  · intro Y tY hY tkY pY FY NY
    walk_at "my drop"
    have pY' := pY
    obtain ⟨pY1, pY2, pY3, pY4, pY5, pY6⟩ := pY'
    k_steps
    all_goals refine stop_go (join_if (Str.ofString "leap_adj") (fun a => (a = 0 ∧ n < gbeg Y + 58 + lp Y) ∨ (gbeg Y + 58 + lp Y ≤ n ∧ a = 2 - lp Y)) (by assumption) (by assumption) ?_ ?_)
    all_goals first
      | (intro a ta ha tka pa Fa Na; (try dsimp only at pa); k_steps; walk_at "my endT"; exact greg_end pY pa (by assumption) (by assumption) (by assumption) (by assumption) (by first | assumption | (rename ((_ : Int) = gbeg Y) => eg; rw [← eg]; assumption)) (by assumption) (by assumption) (by assumption) (by omega) (by omega))
      | (refine wpAny_If ?_; k_steps)
    all_goals first
      | (refine stop_go (wpAny_If ?_); k_steps)
      | skip
    all_goals (walk_at "my set"; omega)
end
end
section
open PySem PySem.W PySem.Calls PyProof.Rows PySem.Flt
theorem rs_CO : True := by
  w_top off
  trivial
section
variable {w : World} {mean : ExcName → Option Value} {mg mb : Str → Option Value}
local macro_rules | `(tactic| walk_at "binaryOp Add int bool") => `(tactic| (k_dflt (refine' @Held.out _ (q_add_ibh ?_)); (intro c' hc'; (try dsimp only [cond_true, cond_false] at hc'); (try dsimp only))))
local macro_rules | `(tactic| walk_at "binaryOp Sub int bool") => `(tactic| (k_dflt (refine' @Held.out _ (q_sub_ibh ?_)); (intro c' hc'; (try dsimp only [cond_true, cond_false] at hc'); (try dsimp only))))
local macro_rules | `(tactic| walk_at "binaryOp Add int int") => `(tactic| (k_dflt (refine' @Held.out _ (q_add_iih ?_)); walk_at "my intro"))
local macro_rules | `(tactic| walk_at "inplaceOp Add int int") => `(tactic| (k_dflt (refine' @Held.out _ (q_iadd_iih ?_)); walk_at "my intro"))
local macro_rules | `(tactic| walk_at "binaryOp Sub int int") => `(tactic| (k_dflt (refine' @Held.out _ (q_sub_iih ?_)); walk_at "my intro"))
local macro_rules | `(tactic| walk_at "call ref") => `(tactic| (k_here; (with_reducible show wpAny _ _ (call (Value.ref 116) _) _ _ _); k_dflt (refine' @Held.out _ (Con.useh (c_to_jd _ _ _ _ _ _) ?k1 ?k2 ?k3 ?k4 ?k5 ?kK ?kd ?ku ?kp ?_); (case k1 => k_asm); (case k2 => k_asm); (case k3 => k_asm); (case k4 => k_asm); (case k5 => k_asm); (case kK => first | exact rfl | assumption); (case kd => ktr_room); (case ku => ktr_units); (case kp => first | trivial | assumption | omega)); intro x9 t9 h9 tk9 ⟨g9, e9, b9, p9⟩ F9 N9; (try dsimp only at p9); (try dsimp only)))
local macro_rules | `(tactic| walk_at "call ref") => `(tactic| (k_here; (with_reducible show wpAny _ _ (call (Value.ref 116) [Value.int _ _, Value.int 1 _, Value.int 1 _]) _ _ _); k_dflt (refine' @Held.out _ (Con.useh (c_to_jd11 _ _ _ _) ?k1 ?k2 ?k3 ?k4 ?k5 ?kK ?kd ?ku ?kp ?_); (case k1 => k_asm); (case k2 => k_asm); (case k3 => k_asm); (case k4 => k_asm); (case k5 => k_asm); (case kK => first | exact rfl | assumption); (case kd => ktr_room); (case ku => ktr_units); (case kp => first | trivial | assumption | omega)); intro x9 t9 h9 tk9 ⟨g9, e9, b9, p9⟩ F9 N9; (try dsimp only at p9); (try dsimp only)))
local macro_rules | `(tactic| walk_at "call ref") => `(tactic| (k_here; (with_reducible show wpAny _ _ (call (Value.ref 123) _) _ _ _); k_dflt (refine' @Held.out _ (ConT.useh (c_from_jd _ _ _) ?k1 ?k2 ?k3 ?k4 ?k5 ?kK ?kd ?ku ?kp ?_); (case k1 => k_asm); (case k2 => k_asm); (case k3 => k_asm); (case k4 => k_asm); (case k5 => k_asm); (case kK => first | exact rfl | assumption); (case kd => ktr_room); (case ku => ktr_units); (case kp => first | trivial | assumption | omega)); intro y9 m9 d9 t91 t92 t93 D9 h9 tk9 p9 F9 N9 l9; (try dsimp only at p9); (try dsimp only); (try simp only [AllLt, and_true] at l9)))
theorem c_to_ord (y o : Int) (t u : Tok) : Con w mean mg mb 229 4 [.int y t, .int o u] (-6000000 ≤ y ∧ y ≤ 6000000 ∧ -1000 ≤ o ∧ o ≤ 1000) mkF
    (fun k => k = 4 * (gbeg y + o - 1) - 2) := by
  refine Con.mk ?_
  walk_at "my begin"
  k_steps
  all_goals walk_at "my endF"
  all_goals omega
abbrev ODay (n y o : Int) : Prop := n = gbeg y + o - 1 ∧ 1 ≤ o ∧ o ≤ 365 + lp y ∧ -6000000 ≤ y ∧ y ≤ 6000000
theorem ord_end {n y m d : Int} (h : GDay n y m d) : gbeg y ≤ n ∧ n < gbeg y + 365 + lp y := by
  obtain ⟨⟨h1, h2, h3, h4⟩, m1, m2, y1, y2, l0, l1, h⟩ := h
  have : m = 1 ∨ m = 2 ∨ m = 3 ∨ m = 4 ∨ m = 5 ∨ m = 6 ∨ m = 7 ∨ m = 8 ∨ m = 9 ∨ m = 10 ∨ m = 11 ∨ m = 12 := by omega
  rcases this with q | q | q | q | q | q | q | q | q | q | q | q <;> subst q <;> omega
theorem c_from_ord (n : Int) (k : Int) (t : Tok) : ConP w mean mg mb 236 6 [.float (fq k) t] (k = 4 * n - 2 ∧ -2000000000 ≤ n ∧ n ≤ 2000000000) (.type "tuple") (ODay n) := by
  refine ConP.mk ?_
  walk_at "my begin"
  k_steps
  all_goals walk_at "my endP"
  all_goals (have q9 := ord_end (by assumption); obtain ⟨⟨h1, h2, h3, h4⟩, m1, m2, y1, y2, l0, l1, h⟩ := (by assumption : GDay _ _ _ _); refine ⟨?_, ?_, ?_, ?_, ?_⟩ <;> omega)
end
end
section
open PySem PySem.W PySem.Calls PyProof.Rows PySem.Flt
theorem rs_CK : True := by
  w_top off
  trivial
section
variable {w : World} {mean : ExcName → Option Value} {mg mb : Str → Option Value}
theorem c_from_jdK (k : Int) (t : Tok) : ConT w mean mg mb 123 4 [.float (fq k) t] (k % 4 = 2 ∧ -7999999990 ≤ k ∧ k ≤ 7999999990) (.type "tuple") (GDay ((k + 2) / 4)) := by
  refine ConT.mk ?_
  intro dp un gd cn cs a ccd cl' outer A₀ base h₀ L m news s Q E B F X N T hk hd hu hp hret
  exact @Held.out _ (ConT.useh (c_from_jd ((k + 2) / 4) k t) B F X N T hk hd hu (by omega) hret)
abbrev GYz (n y z : Int) : Prop := z = y - 1 ∧ gbeg y = gbeg z + 365 + lp z ∧ 0 ≤ lp z ∧ lp z ≤ 1 ∧ GYear n y
theorem c_from_jdY (k : Int) (t : Tok) : ConT w mean mg mb 123 4 [.float (fq k) t] (k % 4 = 2 ∧ -7999999990 ≤ k ∧ k ≤ 7999999990) (.type "tuple") (fun y _ _ => ∃ z, GYz ((k + 2) / 4) y z) := by
  refine ConT.mk ?_
  intro dp un gd cn cs a ccd cl' outer A₀ base h₀ L m news s Q E B F X N T hk hd hu hp hret
  refine @Held.out _ (ConT.useh (c_from_jd ((k + 2) / 4) k t) B F X N T hk hd hu (by omega) fun y mo d t1 t2 t3 D h' tk' p => hret y mo d t1 t2 t3 D h' tk' ?_)
  have q := ord_end p
  have b1 := p.2.2.2.1
  have b2 := p.2.2.2.2.1
  have l := lp01 y
  have l' := lp01 (y - 1)
  have st := gbeg_step (y - 1)
  rw [show y - 1 + 1 = y by omega] at st
  exact ⟨y - 1, rfl, st, l'.1, l'.2, b1, b2, q.1, q.2, l.1, l.2⟩
abbrev NDay (n y m d : Int) : Prop := ∃ g, y = g - 78 ∧ 1 ≤ m ∧ m ≤ 12 ∧ 1 ≤ d ∧ d ≤ 31 ∧ (m = 1 → d ≤ 30 + lp g) ∧ (7 ≤ m → d ≤ 30) ∧ -6000001 ≤ g ∧ g ≤ 6000000 ∧ 0 ≤ lp g ∧ lp g ≤ 1 ∧
  ((m = 1 ∧ n = gbeg g + 79 + d) ∨ (2 ≤ m ∧ m ≤ 7 ∧ n = gbeg g + 109 + lp g + 31 * (m - 2) + d) ∨ (8 ≤ m ∧ n = gbeg g + 264 + lp g + 30 * (m - 7) + d))
theorem ind_A {n g z y m d : Int} (h : GYz n g z) (hy : y = g - 79) (hlt : n - gbeg g < 80) (hm : m = (n - gbeg g + 100) / 30 + 7) (hd : d = (n - gbeg g + 100) % 30 + 1) : NDay n y m d := by
  obtain ⟨e1, e2, e3, e4, b1, b2, b3, b4, b5, b6⟩ := h
  have : 10 ≤ m ∧ m ≤ 12 := by omega
  refine ⟨z, by omega, by omega, by omega, by omega, by omega, by omega, by omega, by omega, by omega, e3, e4, Or.inr (Or.inr ⟨by omega, by omega⟩)⟩
theorem ind_B1 {n g z y d : Int} (h : GYz n g z) (hy : y = g - 78) (h0 : 80 ≤ n - gbeg g) (h1 : n - gbeg g - 80 < 30 + lp g) (hd : d = n - gbeg g - 79) : NDay n y 1 d := by
  obtain ⟨e1, e2, e3, e4, b1, b2, b3, b4, b5, b6⟩ := h
  refine ⟨g, by omega, by omega, by omega, by omega, by omega, by omega, by omega, by omega, by omega, b5, b6, Or.inl ⟨rfl, by omega⟩⟩
theorem ind_B2 {n g z y m d : Int} (h : GYz n g z) (hy : y = g - 78) (h0 : 0 ≤ n - gbeg g - 110 - lp g) (h1 : n - gbeg g - 110 - lp g < 155) (hm : m = (n - gbeg g - 110 - lp g) / 31 + 2) (hd : d = (n - gbeg g - 110 - lp g) % 31 + 1) : NDay n y m d := by
  obtain ⟨e1, e2, e3, e4, b1, b2, b3, b4, b5, b6⟩ := h
  have : 2 ≤ m ∧ m ≤ 6 := by omega
  refine ⟨g, by omega, by omega, by omega, by omega, by omega, by omega, by omega, by omega, by omega, b5, b6, Or.inr (Or.inl ⟨by omega, by omega, by omega⟩)⟩
theorem ind_B3 {n g z y m d : Int} (h : GYz n g z) (hy : y = g - 78) (h0 : 155 ≤ n - gbeg g - 110 - lp g) (hm : m = (n - gbeg g - 265 - lp g) / 30 + 7) (hd : d = (n - gbeg g - 265 - lp g) % 30 + 1) : NDay n y m d := by
  obtain ⟨e1, e2, e3, e4, b1, b2, b3, b4, b5, b6⟩ := h
  have : 7 ≤ m ∧ m ≤ 10 := by omega
  rcases (by omega : m = 7 ∨ 8 ≤ m) with q | q
  · refine ⟨g, by omega, by omega, by omega, by omega, by omega, by omega, by omega, by omega, by omega, b5, b6, Or.inr (Or.inl ⟨by omega, by omega, by omega⟩)⟩
  · refine ⟨g, by omega, by omega, by omega, by omega, by omega, by omega, by omega, by omega, by omega, b5, b6, Or.inr (Or.inr ⟨by omega, by omega⟩)⟩
end
end
section
open PySem PySem.W PySem.Calls PyProof.Rows PySem.Flt
theorem rs_CN : True := by
  w_top off
  trivial
section
variable {w : World} {mean : ExcName → Option Value} {mg mb : Str → Option Value}
local macro_rules | `(tactic| walk_at "binaryOp Add int bool") => `(tactic| (k_dflt (refine' @Held.out _ (q_add_ibh ?_)); (intro c' hc'; (try dsimp only [cond_true, cond_false] at hc'); (try dsimp only))))
local macro_rules | `(tactic| walk_at "binaryOp Sub int bool") => `(tactic| (k_dflt (refine' @Held.out _ (q_sub_ibh ?_)); (intro c' hc'; (try dsimp only [cond_true, cond_false] at hc'); (try dsimp only))))
local macro_rules | `(tactic| walk_at "binaryOp Add int int") => `(tactic| (k_dflt (refine' @Held.out _ (q_add_iih ?_)); walk_at "my intro"))
local macro_rules | `(tactic| walk_at "inplaceOp Add int int") => `(tactic| (k_dflt (refine' @Held.out _ (q_iadd_iih ?_)); walk_at "my intro"))
local macro_rules | `(tactic| walk_at "binaryOp Sub int int") => `(tactic| (k_dflt (refine' @Held.out _ (q_sub_iih ?_)); walk_at "my intro"))
local macro_rules | `(tactic| walk_at "call ref") => `(tactic| (k_here; (with_reducible show wpAny _ _ (call (Value.ref 102) _) _ _ _); k_dflt (refine' @Held.out _ (Con.useh (c_isleap _ _) ?k1 ?k2 ?k3 ?k4 ?k5 ?kK ?kd ?ku ?kp ?_); (case k1 => k_asm); (case k2 => k_asm); (case k3 => k_asm); (case k4 => k_asm); (case k5 => k_asm); (case kK => first | exact rfl | assumption); (case kd => ktr_room); (case ku => ktr_units); (case kp => first | trivial | assumption | omega)); intro x9 t9 h9 tk9 p9 F9 N9; cases x9 <;> (try dsimp only at p9) <;> (try dsimp only)))
local macro_rules | `(tactic| walk_at "call ref") => `(tactic| (k_here; (with_reducible show wpAny _ _ (call (Value.ref 116) _) _ _ _); k_dflt (refine' @Held.out _ (Con.useh (c_to_jd _ _ _ _ _ _) ?k1 ?k2 ?k3 ?k4 ?k5 ?kK ?kd ?ku ?kp ?_); (case k1 => k_asm); (case k2 => k_asm); (case k3 => k_asm); (case k4 => k_asm); (case k5 => k_asm); (case kK => first | exact rfl | assumption); (case kd => ktr_room); (case ku => ktr_units); (case kp => first | trivial | assumption | omega)); intro x9 t9 h9 tk9 ⟨g9, e9, b9, p9⟩ F9 N9; (try dsimp only at p9); (try dsimp only)))
theorem c_to_ind (y m d : Int) (t u v : Tok) : Con w mean mg mb 144 4 [.int y t, .int m u, .int d v] (-6000000 ≤ y ∧ y ≤ 6000000 ∧ 1 ≤ m ∧ m ≤ 12 ∧ -1000 ≤ d ∧ d ≤ 1000) mkF
    (fun k => (m = 1 ∧ k = 4 * (gbeg (y + 78) + 79 + d) - 2) ∨ (2 ≤ m ∧ m ≤ 7 ∧ k = 4 * (gbeg (y + 78) + 109 + lp (y + 78) + 31 * (m - 2) + d) - 2) ∨ (8 ≤ m ∧ k = 4 * (gbeg (y + 78) + 264 + lp (y + 78) + 30 * (m - 7) + d) - 2)) := by
  refine Con.mk ?_
  walk_at "my begin"
  k_steps
  all_goals walk_at "my endF"
  all_goals ((rename ((_ : Int) = y + 78) => ey); (try rw [ey] at *); omega)
end
end
section
open PySem PySem.W PySem.Calls PyProof.Rows PySem.Flt
theorem rs_CN2 : True := by
  w_top off
  trivial
section
variable {w : World} {mean : ExcName → Option Value} {mg mb : Str → Option Value}
local macro_rules | `(tactic| walk_at "binaryOp Add int bool") => `(tactic| (k_dflt (refine' @Held.out _ (q_add_ibh ?_)); (intro c' hc'; (try dsimp only [cond_true, cond_false] at hc'); (try dsimp only))))
local macro_rules | `(tactic| walk_at "binaryOp Sub int bool") => `(tactic| (k_dflt (refine' @Held.out _ (q_sub_ibh ?_)); (intro c' hc'; (try dsimp only [cond_true, cond_false] at hc'); (try dsimp only))))
local macro_rules | `(tactic| walk_at "binaryOp Add int int") => `(tactic| (k_dflt (refine' @Held.out _ (q_add_iih ?_)); walk_at "my intro"))
local macro_rules | `(tactic| walk_at "inplaceOp Add int int") => `(tactic| (k_dflt (refine' @Held.out _ (q_iadd_iih ?_)); walk_at "my intro"))
local macro_rules | `(tactic| walk_at "binaryOp Sub int int") => `(tactic| (k_dflt (refine' @Held.out _ (q_sub_iih ?_)); walk_at "my intro"))
local macro_rules | `(tactic| walk_at "call ref") => `(tactic| (k_here; (with_reducible show wpAny _ _ (call (Value.ref 102) _) _ _ _); k_dflt (refine' @Held.out _ (Con.useh (c_isleap _ _) ?k1 ?k2 ?k3 ?k4 ?k5 ?kK ?kd ?ku ?kp ?_); (case k1 => k_asm); (case k2 => k_asm); (case k3 => k_asm); (case k4 => k_asm); (case k5 => k_asm); (case kK => first | exact rfl | assumption); (case kd => ktr_room); (case ku => ktr_units); (case kp => first | trivial | assumption | omega)); intro x9 t9 h9 tk9 p9 F9 N9; cases x9 <;> (try dsimp only at p9) <;> (try dsimp only)))
local macro_rules | `(tactic| walk_at "call ref") => `(tactic| (k_here; (with_reducible show wpAny _ _ (call (Value.ref 116) [Value.int _ _, Value.int 1 _, Value.int 1 _]) _ _ _); k_dflt (refine' @Held.out _ (Con.useh (c_to_jd11 _ _ _ _) ?k1 ?k2 ?k3 ?k4 ?k5 ?kK ?kd ?ku ?kp ?_); (case k1 => k_asm); (case k2 => k_asm); (case k3 => k_asm); (case k4 => k_asm); (case k5 => k_asm); (case kK => first | exact rfl | assumption); (case kd => ktr_room); (case ku => ktr_units); (case kp => first | trivial | assumption | omega)); intro x9 t9 h9 tk9 ⟨g9, e9, b9, p9⟩ F9 N9; (try dsimp only at p9); (try dsimp only)))
local macro_rules | `(tactic| walk_at "call ref") => `(tactic| (k_here; (with_reducible show wpAny _ _ (call (Value.ref 123) _) _ _ _); k_dflt (refine' @Held.out _ (ConT.useh (c_from_jdY _ _) ?k1 ?k2 ?k3 ?k4 ?k5 ?kK ?kd ?ku ?kp ?_); (case k1 => k_asm); (case k2 => k_asm); (case k3 => k_asm); (case k4 => k_asm); (case k5 => k_asm); (case kK => first | exact rfl | assumption); (case kd => ktr_room); (case ku => ktr_units); (case kp => first | trivial | assumption | omega)); intro y9 m9 d9 t91 t92 t93 D9 h9 tk9 ⟨z9, p9⟩ F9 N9 l9; (have p9c := p9); (try dsimp only); (try simp only [AllLt, and_true] at l9)))
theorem c_from_ind (n : Int) (k : Int) (t : Tok) : ConT w mean mg mb 151 6 [.float (fq k) t] (k = 4 * n - 2 ∧ -1900000000 ≤ n ∧ n ≤ 1900000000) (.type "tuple") (NDay n) := by
  refine ConT.mk ?_
  walk_at "my begin"
  k_steps

  all_goals walk_at "my endT"
  all_goals (rename GYz _ _ _ => hz)
  all_goals (rw [show (_ + 2) / 4 = n by omega] at hz)
  all_goals first
    | (refine ind_B1 hz ?_ ?_ ?_ ?_ <;> omega)
    | (refine ind_A hz ?_ ?_ ?_ ?_ <;> omega)
    | (refine ind_B2 hz ?_ ?_ ?_ ?_ ?_ <;> omega)
    | (refine ind_B3 hz ?_ ?_ ?_ ?_ <;> omega)
end
end
section
open PySem PySem.W PySem.Calls PyProof.Rows PySem.Flt
theorem rs_CS : True := by
  w_top off
  trivial
section
variable {w : World} {mean : ExcName → Option Value} {mg mb : Str → Option Value}
local macro_rules | `(tactic| walk_at "call ref") => `(tactic| (k_here; (with_reducible show wpAny _ _ (call (Value.ref 116) _) _ _ _); k_dflt (refine' @Held.out _ (Con.useh (c_to_jd _ _ _ _ _ _) ?k1 ?k2 ?k3 ?k4 ?k5 ?kK ?kd ?ku ?kp ?_); (case k1 => k_asm); (case k2 => k_asm); (case k3 => k_asm); (case k4 => k_asm); (case k5 => k_asm); (case kK => first | exact rfl | assumption); (case kd => ktr_room); (case ku => ktr_units); (case kp => first | trivial | assumption | omega)); intro x9 t9 h9 tk9 ⟨g9, e9, b9, p9⟩ F9 N9; (try dsimp only at p9); (try dsimp only)))
theorem c_jwday (k : Int) (t : Tok) : Con w mean mg mb 59 1 [.float (fq k) t] (k % 4 = 2 ∧ 2 ≤ k ∧ k ≤ 8000000000) mkI (fun r => r = (k + 2) / 4 % 7) := by
  refine Con.mk ?_
  walk_at "my begin"
  k_steps
  all_goals walk_at "my endI"
  all_goals omega
local macro_rules | `(tactic| walk_at "call ref") => `(tactic| (k_here; (with_reducible show wpAny _ _ (call (Value.ref 59) _) _ _ _); k_dflt (refine' @Held.out _ (Con.useh (c_jwday _ _) ?k1 ?k2 ?k3 ?k4 ?k5 ?kK ?kd ?ku ?kp ?_); (case k1 => k_asm); (case k2 => k_asm); (case k3 => k_asm); (case k4 => k_asm); (case k5 => k_asm); (case kK => first | exact rfl | assumption); (case kd => ktr_room); (case ku => ktr_units); (case kp => first | trivial | assumption | omega)); intro x9 t9 h9 tk9 p9 F9 N9; (try dsimp only at p9); (try dsimp only)))

theorem c_wbefore (e k : Int) (t u : Tok) : Con w mean mg mb 66 2 [.int e u, .float (fq k) t] (k % 4 = 2 ∧ 1000 ≤ k ∧ k ≤ 8000000000 ∧ 0 ≤ e ∧ e ≤ 6) mkF (fun r => r = k - 4 * ((k - 4 * e + 2) / 4 % 7)) := by
  refine Con.mk ?_
  walk_at "my begin"
  k_steps
  all_goals walk_at "my endF"
  all_goals omega
local macro_rules | `(tactic| walk_at "call ref") => `(tactic| (k_here; (with_reducible show wpAny _ _ (call (Value.ref 66) _) _ _ _); k_dflt (refine' @Held.out _ (Con.useh (c_wbefore _ _ _ _) ?k1 ?k2 ?k3 ?k4 ?k5 ?kK ?kd ?ku ?kp ?_); (case k1 => k_asm); (case k2 => k_asm); (case k3 => k_asm); (case k4 => k_asm); (case k5 => k_asm); (case kK => first | exact rfl | assumption); (case kd => ktr_room); (case ku => ktr_units); (case kp => first | trivial | assumption | omega)); intro x9 t9 h9 tk9 p9 F9 N9; (try dsimp only at p9); (try dsimp only)))

theorem c_search (e k dn f : Int) (t u v x : Tok) : Con w mean mg mb 73 3 [.int e u, .float (fq k) t, .int dn v, .int f x] (k % 4 = 2 ∧ 5000 ≤ k ∧ k ≤ 7000000000 ∧ 0 ≤ e ∧ e ≤ 6 ∧ dn = -1 ∧ f = 1) mkF (fun r => r = k - 4 - 4 * ((k - 4 - 4 * e + 2) / 4 % 7)) := by
  refine Con.mk ?_
  walk_at "my begin"
  rename_i hp _ _
  have hdn : dn = -1 := by omega
  have hf : f = 1 := by omega
  subst hdn hf
  k_steps
  all_goals walk_at "my endF"
  all_goals omega
local macro_rules | `(tactic| walk_at "call ref") => `(tactic| (k_here; (with_reducible show wpAny _ _ (call (Value.ref 73) _) _ _ _); k_dflt (refine' @Held.out _ (Con.useh (c_search _ _ _ _ _ _ _ _) ?k1 ?k2 ?k3 ?k4 ?k5 ?kK ?kd ?ku ?kp ?_); (case k1 => k_asm); (case k2 => k_asm); (case k3 => k_asm); (case k4 => k_asm); (case k5 => k_asm); (case kK => first | exact rfl | assumption); (case kd => ktr_room); (case ku => ktr_units); (case kp => first | trivial | assumption | omega)); intro x9 t9 h9 tk9 p9 F9 N9; (try dsimp only at p9); (try dsimp only)))

theorem c_prev (e k : Int) (t u : Tok) : Con w mean mg mb 87 4 [.int e u, .float (fq k) t] (k % 4 = 2 ∧ 5000 ≤ k ∧ k ≤ 7000000000 ∧ 0 ≤ e ∧ e ≤ 6) mkF (fun r => r = k - 4 - 4 * ((k - 4 - 4 * e + 2) / 4 % 7)) := by
  refine Con.mk ?_
  walk_at "my begin"
  k_steps
  all_goals walk_at "my endF"
  all_goals omega
local macro_rules | `(tactic| walk_at "call ref") => `(tactic| (k_here; (with_reducible show wpAny _ _ (call (Value.ref 87) _) _ _ _); k_dflt (refine' @Held.out _ (Con.useh (c_prev _ _ _ _) ?k1 ?k2 ?k3 ?k4 ?k5 ?kK ?kd ?ku ?kp ?_); (case k1 => k_asm); (case k2 => k_asm); (case k3 => k_asm); (case k4 => k_asm); (case k5 => k_asm); (case kK => first | exact rfl | assumption); (case kd => ktr_room); (case ku => ktr_units); (case kp => first | trivial | assumption | omega)); intro x9 t9 h9 tk9 p9 F9 N9; (try dsimp only at p9); (try dsimp only)))

theorem c_nweeks (e k wk : Int) (t u v : Tok) : Con w mean mg mb 94 5 [.int e u, .float (fq k) t, .int wk v] (k % 4 = 2 ∧ 5000 ≤ k ∧ k ≤ 7000000000 ∧ 0 ≤ e ∧ e ≤ 6 ∧ 1 ≤ wk ∧ wk ≤ 100) mkF (fun r => r = 28 * wk + k - 4 - 4 * ((k - 4 - 4 * e + 2) / 4 % 7)) := by
  refine Con.mk ?_
  walk_at "my begin"
  k_steps
  all_goals walk_at "my endF"
  all_goals omega
local macro_rules | `(tactic| walk_at "call ref") => `(tactic| (k_here; (with_reducible show wpAny _ _ (call (Value.ref 94) _) _ _ _); k_dflt (refine' @Held.out _ (Con.useh (c_nweeks _ _ _ _ _ _) ?k1 ?k2 ?k3 ?k4 ?k5 ?kK ?kd ?ku ?kp ?_); (case k1 => k_asm); (case k2 => k_asm); (case k3 => k_asm); (case k4 => k_asm); (case k5 => k_asm); (case kK => first | exact rfl | assumption); (case kd => ktr_room); (case ku => ktr_units); (case kp => first | trivial | assumption | omega)); intro x9 t9 h9 tk9 p9 F9 N9; (try dsimp only at p9); (try dsimp only)))

theorem c_to_iso (y wk d : Int) (t u v : Tok) : Con w mean mg mb 172 6 [.int y t, .int wk u, .int d v] (0 ≤ y ∧ y ≤ 20000 ∧ 1 ≤ wk ∧ wk ≤ 60 ∧ 1 ≤ d ∧ d ≤ 7) mkF (fun r => r = 4 * (d + 7 * wk + gbeg y - 5 - (gbeg y - 4) % 7) - 2) := by
  refine Con.mk ?_
  walk_at "my begin"
  have hst := gbeg_step (y - 1)
  rw [show y - 1 + 1 = y by omega] at hst
  have hl := lp01 (y - 1)
  have hro : 1700000 ≤ gbeg y ∧ gbeg y ≤ 10000000 := by unfold gbeg; omega
  k_steps
  all_goals walk_at "my endF"
  all_goals omega
end
end
section
open PySem PySem.W PySem.Calls PyProof.Rows PySem.Flt
theorem rs_CW : True := by
  w_top off
  trivial
section
variable {w : World} {mean : ExcName → Option Value} {mg mb : Str → Option Value}
open PySem.Builtin._datetime (daysInMonth isoCalendarOf)
abbrev GOk (y m d : Int) : Prop := GV y m d ∧ 1 ≤ m ∧ m ≤ 12
theorem dim_of {y m d : Int} (h : GOk y m d) : d ≤ daysInMonth y m := by
  obtain ⟨⟨h1, h2, h3, h4⟩, m1, m2⟩ := h
  have hl : Builtin.Time.timeIsLeap y = decide (lp y = 1) := by
    unfold Builtin.Time.timeIsLeap lp
    by_cases q : y % 4 = 0 ∧ (y % 100 ≠ 0 ∨ y % 400 = 0)
    · rw [if_pos q]; simp [q]
    · rw [if_neg q]; simp; omega
  have : m = 1 ∨ m = 2 ∨ m = 3 ∨ m = 4 ∨ m = 5 ∨ m = 6 ∨ m = 7 ∨ m = 8 ∨ m = 9 ∨ m = 10 ∨ m = 11 ∨ m = 12 := by omega
  unfold daysInMonth
  rw [hl]
  have l := lp01 y
  rcases this with q | q | q | q | q | q | q | q | q | q | q | q <;> subst q
  all_goals first
    | (by_cases e : lp y = 1 <;> simp [e] <;> omega)
    | (simp; omega)
local macro_rules | `(tactic| walk_at "call type:datetime.date") => `(tactic| (k_here; k_dflt (refine' @Held.out _ (q_dateh ?F ?N ?y ?m ?d ?x ?_); (case F => k_asm); (case N => k_asm); (case y => omega); (case m => omega); (case d => omega); (case x => exact dim_of (by assumption))); intro D' h' F' N' l1))
local macro_rules | `(tactic| walk_at "getMethod ref") => `(tactic| (k_here; k_dflt (refine' @Held.out _ (q_getisoh ?N ?m ?_); (case N => k_asm); (case m => k_mem))))
local macro_rules | `(tactic| walk_at "call builtin:datetime.date.isocalendar") => `(tactic| (k_here; k_dflt (refine' @Held.out _ (q_isocalh ?F ?N ?m ?_); (case F => k_asm); (case N => k_asm); (case m => k_mem)); intro D' t1 t2 t3 h' tk' F' N' l1; (try simp only [AllLt, and_true] at l1)))

theorem c_fgreg (y m d : Int) (t u v : Tok) : ConT w mean mg mb 186 1 [.int y t, .int m u, .int d v] (GOk y m d ∧ 1 ≤ y ∧ y ≤ 9999) (.type "datetime.IsoCalendarDate") (fun a b c => a = (isoCalendarOf y m d).1 ∧ b = (isoCalendarOf y m d).2.1 ∧ c = (isoCalendarOf y m d).2.2) := by
  refine ConT.mk ?_
  walk_at "my begin"
  have hp := (by assumption : GOk y m d ∧ 1 ≤ y ∧ y ≤ 9999)
  have hp1 : GOk y m d := hp.1
  have hp2 : 1 ≤ y ∧ y ≤ 9999 ∧ 1 ≤ m ∧ m ≤ 12 ∧ 1 ≤ d ∧ d ≤ 31 := ⟨hp.2.1, hp.2.2, hp1.2.1, hp1.2.2, hp1.1.1, hp1.1.2.1⟩
  k_steps
  all_goals walk_at "my endT"
  all_goals exact ⟨rfl, rfl, rfl⟩
end
end
section
open PySem PySem.W PySem.Calls PyProof.Rows PySem.Flt
theorem rs_CX : True := by
  w_top off
  trivial
section
variable {w : World} {mean : ExcName → Option Value} {mg mb : Str → Option Value}
open PySem.Builtin._datetime (daysInMonth isoCalendarOf toOrdinal isoWeek1Monday weekdayOf)
/-- the Monday of the year's first week -/
noncomputable def wbeg (y : Int) : Int := gbeg y + 3 - (gbeg y + 3) % 7
theorem leap_eq (y : Int) : Builtin.Time.timeIsLeap y = decide (lp y = 1) := by
  unfold Builtin.Time.timeIsLeap lp
  by_cases q : y % 4 = 0 ∧ (y % 100 ≠ 0 ∨ y % 400 = 0)
  · rw [if_pos q]; simp [q]
  · rw [if_neg q]; simp; omega
theorem ord_of {n y m d : Int} (h : GDay n y m d) : toOrdinal y m d = n - 1721425 := by
  obtain ⟨⟨h1, h2, h3, h4⟩, m1, m2, y1, y2, l0, l1, h⟩ := h
  have : m = 1 ∨ m = 2 ∨ m = 3 ∨ m = 4 ∨ m = 5 ∨ m = 6 ∨ m = 7 ∨ m = 8 ∨ m = 9 ∨ m = 10 ∨ m = 11 ∨ m = 12 := by omega
  unfold toOrdinal Builtin.Time.timeDaysBefore
  rw [leap_eq]
  unfold gbeg at h
  rcases this with q | q | q | q | q | q | q | q | q | q | q | q <;> subst q
  all_goals (by_cases e : lp y = 1 <;> simp [e] <;> omega)
theorem ord_one (y : Int) : toOrdinal y 1 1 = gbeg y - 1721425 := by
  unfold toOrdinal Builtin.Time.timeDaysBefore gbeg
  rw [leap_eq]
  by_cases e : lp y = 1 <;> simp [e] <;> omega
theorem monday_of (y : Int) : isoWeek1Monday y = wbeg y - 1721425 := by
  unfold isoWeek1Monday weekdayOf wbeg
  simp only [ord_one]
  generalize gbeg y = g
  split <;> omega
theorem wbeg_step (y : Int) : wbeg y + 364 ≤ wbeg (y + 1) ∧ wbeg (y + 1) ≤ wbeg y + 371 := by
  unfold wbeg
  rw [gbeg_step]
  have := lp01 y
  omega
theorem wbeg_near (y : Int) : gbeg y - 3 ≤ wbeg y ∧ wbeg y ≤ gbeg y + 3 ∧ wbeg y % 7 = 0 := by
  unfold wbeg
  omega
abbrev WDay (n y w d : Int) : Prop := 1 ≤ d ∧ d ≤ 7 ∧ 1 ≤ w ∧ n = wbeg y + 7 * (w - 1) + d - 1 ∧ n < wbeg (y + 1)
theorem iso_of {n y m d : Int} (h : GDay n y m d) : WDay n (isoCalendarOf y m d).1 (isoCalendarOf y m d).2.1 (isoCalendarOf y m d).2.2 := by
  have ho := ord_of h
  have hr := ord_end h
  have s1 := wbeg_step y
  have s0 := wbeg_step (y - 1)
  rw [show y - 1 + 1 = y by omega] at s0
  have n0 := wbeg_near y
  have n1 := wbeg_near (y + 1)
  have n2 := wbeg_near (y - 1)
  rw [gbeg_step] at n1
  have g0 := gbeg_step (y - 1)
  rw [show y - 1 + 1 = y by omega] at g0
  have l0 := lp01 (y - 1)
  have l1 := lp01 y
  unfold isoCalendarOf
  simp only [monday_of, ho, Int.fdiv_eq_ediv_of_nonneg _ (show (0 : Int) ≤ 7 by decide), Int.fmod_eq_emod_of_nonneg _ (show (0 : Int) ≤ 7 by decide)]
  have e1 : n - 1721425 - (wbeg y - 1721425) = n - wbeg y := by omega
  have e2 : n - 1721425 - (wbeg (y - 1) - 1721425) = n - wbeg (y - 1) := by omega
  rw [e1, e2]
  have s2 := wbeg_step (y + 1)
  have e3 : (n - 1721425 ≥ wbeg (y + 1) - 1721425) = (wbeg (y + 1) ≤ n) := by apply propext; omega
  clear h ho
  split
  · dsimp only [WDay]
    rw [show y - 1 + 1 = y by omega]
    exact ⟨by omega, by omega, by omega, by omega, by omega⟩
  · split
    · rename_i q
      simp only [Bool.and_eq_true, decide_eq_true_eq] at q
      dsimp only [WDay]
      exact ⟨by omega, by omega, by omega, by omega, by omega⟩
    · rename_i q
      simp only [Bool.and_eq_true, decide_eq_true_eq] at q
      dsimp only [WDay]
      exact ⟨by omega, by omega, by omega, by omega, by omega⟩
abbrev YOk (n y m d : Int) : Prop := (GOk y m d ∧ 1 ≤ y ∧ y ≤ 9999) ∧ GDay n y m d
theorem year_ok {n y m d : Int} (h : GDay n y m d) (h1 : 1721426 ≤ n) (h2 : n ≤ 5373484) : YOk n y m d := by
  have hr := ord_end h
  have l := lp01 y
  have hv : GOk y m d := ⟨h.1, h.2.1, h.2.2.1⟩
  refine ⟨⟨hv, ?_, ?_⟩, h⟩
  · have st := gbeg_step y
    rcases (by omega : 1 ≤ y ∨ y = 0 ∨ y + 1 ≤ 0) with q | q | q
    · exact q
    · exfalso; subst q; have : gbeg (0 + 1) = 1721426 := by unfold gbeg; omega
      omega
    · exfalso; have : gbeg (y + 1) ≤ 1721426 := by unfold gbeg; omega
      omega
  · unfold gbeg at hr; omega
theorem c_from_jdW (k : Int) (t : Tok) : ConT w mean mg mb 123 4 [.float (fq k) t] (k % 4 = 2 ∧ 4 * 1721426 - 2 ≤ k ∧ k ≤ 4 * 5373484 - 2) (.type "tuple") (YOk ((k + 2) / 4)) := by
  refine ConT.mk ?_
  intro dp un gd cn cs a ccd cl' outer A₀ base h₀ L m news s Q E B F X N T hk hd hu hp hret
  exact @Held.out _ (ConT.useh (c_from_jd ((k + 2) / 4) k t) B F X N T hk hd hu (by omega) fun y mo d t1 t2 t3 D h' tk' p => hret y mo d t1 t2 t3 D h' tk' (year_ok p (by omega) (by omega)))
local macro_rules | `(tactic| walk_at "call ref") => `(tactic| (k_here; (with_reducible show wpAny _ _ (call (Value.ref 186) _) _ _ _); k_dflt (refine' @Held.out _ (ConT.useh (c_fgreg _ _ _ _ _ _) ?k1 ?k2 ?k3 ?k4 ?k5 ?kK ?kd ?ku ?kp ?_); (case k1 => k_asm); (case k2 => k_asm); (case k3 => k_asm); (case k4 => k_asm); (case k5 => k_asm); (case kK => first | exact rfl | assumption); (case kd => ktr_room); (case ku => ktr_units); (case kp => first | trivial | assumption | omega)); intro y9 m9 d9 t91 t92 t93 D9 h9 tk9 ⟨p1, p2, p3⟩ F9 N9 l9; skip; (try dsimp only); (try simp only [AllLt, and_true] at l9)))
local macro_rules | `(tactic| walk_at "call ref") => `(tactic| (k_here; (with_reducible show wpAny _ _ (call (Value.ref 123) _) _ _ _); k_dflt (refine' @Held.out _ (ConT.useh (c_from_jdW _ _) ?k1 ?k2 ?k3 ?k4 ?k5 ?kK ?kd ?ku ?kp ?_); (case k1 => k_asm); (case k2 => k_asm); (case k3 => k_asm); (case k4 => k_asm); (case k5 => k_asm); (case kK => first | exact rfl | assumption); (case kd => ktr_room); (case ku => ktr_units); (case kp => first | trivial | assumption | omega)); intro y9 m9 d9 t91 t92 t93 D9 h9 tk9 ⟨q9, p9⟩ F9 N9 l9; (try dsimp only at p9); (try dsimp only); (try simp only [AllLt, and_true] at l9)))

theorem c_from_iso (n : Int) (k : Int) (t : Tok) : ConT w mean mg mb 179 6 [.float (fq k) t] (k = 4 * n - 2 ∧ 1721426 ≤ n ∧ n ≤ 5373484) (.type "datetime.IsoCalendarDate") (WDay n) := by
  refine ConT.mk ?_
  walk_at "my begin"
  k_steps
  all_goals walk_at "my endT"
  all_goals ((rename GDay _ _ _ _ => hz); (rw [show (k + 2) / 4 = n by omega] at hz); (have q := iso_of hz); (rename (_ = (isoCalendarOf _ _ _).1) => r1); (rename (_ = (isoCalendarOf _ _ _).2.1) => r2); (rename (_ = (isoCalendarOf _ _ _).2.2) => r3); (rw [← r1, ← r2, ← r3] at q); exact q)
end
end
section
open PySem PySem.W PySem.Calls PyProof.Rows PySem.Flt
theorem rs_PL : True := by
  w_top off
  trivial
noncomputable def jbeg (y : Int) : Int := 1721424 + 365 * (y - 1) + (y - 1) / 4
noncomputable def ibeg (y : Int) : Int := 1948440 + 354 * (y - 1) + (3 + 11 * y) / 30
noncomputable def cbeg (y : Int) : Int := 1824665 + 365 * y + y / 4
noncomputable def nbeg (y : Int) : Int := gbeg (y + 78) + 80
/-- the first day of the year y by the calendar k -/
noncomputable def lbeg (k y : Int) : Int := if k = 1 then jbeg y else if k = 2 then ibeg y else if k = 3 then cbeg y else if k = 4 then nbeg y else if k = 6 then wbeg y else gbeg y
abbrev leng (k D : Int) : List Int :=
  if k = 2 then [30, 29, 30, 29, 30, 29, 30, 29, 30, 29, 30, D - 325]
  else if k = 3 then [30, 30, 30, 30, 30, 30, 30, 30, 30, 30, 30, 30, D - 360]
  else if k = 4 then [D - 335, 31, 31, 31, 31, 31, 30, 30, 30, 30, 30, 30]
  else if k = 5 then [D]
  else if k = 6 then (List.replicate (D / 7).toNat [7]).flatten
  else [31, D - 337, 31, 30, 31, 30, 31, 31, 30, 31, 30, 31]
noncomputable def llen (k y : Int) : List Int := leng k (lbeg k (y + 1) - lbeg k y)
def cum (l : List Int) (m : Int) : Int := (l.take (m - 1).toNat).sum
def at1 (l : List Int) (m : Int) : Int := l.getD (m - 1).toNat 0
/-- the day n is the day d of the month m of the year y by the calendar k -/
def LDay (k n y m d : Int) : Prop := 1 ≤ m ∧ m ≤ (llen k y).length ∧ 1 ≤ d ∧ d ≤ at1 (llen k y) m ∧ n = lbeg k y + cum (llen k y) m + d - 1
theorem lbeg0 (y : Int) : lbeg 0 y = gbeg y := rfl
theorem lbeg1 (y : Int) : lbeg 1 y = jbeg y := rfl
theorem lbeg2 (y : Int) : lbeg 2 y = ibeg y := rfl
theorem lbeg3 (y : Int) : lbeg 3 y = cbeg y := rfl
theorem lbeg4 (y : Int) : lbeg 4 y = nbeg y := rfl
theorem lbeg5 (y : Int) : lbeg 5 y = gbeg y := rfl
theorem lbeg6 (y : Int) : lbeg 6 y = wbeg y := rfl
theorem seven {k : Int} (h : 0 ≤ k ∧ k ≤ 6) : k = 0 ∨ k = 1 ∨ k = 2 ∨ k = 3 ∨ k = 4 ∨ k = 5 ∨ k = 6 := by omega
theorem lstep {k : Int} (hk : 0 ≤ k ∧ k ≤ 6) (y : Int) : (k = 6 → (lbeg k (y + 1) - lbeg k y) = 364 ∨ (lbeg k (y + 1) - lbeg k y) = 371) ∧ (k = 2 → 354 ≤ (lbeg k (y + 1) - lbeg k y) ∧ (lbeg k (y + 1) - lbeg k y) ≤ 355) ∧ (k ≠ 2 ∧ k ≠ 6 → 365 ≤ (lbeg k (y + 1) - lbeg k y) ∧ (lbeg k (y + 1) - lbeg k y) ≤ 366) := by
  have s := gbeg_step y
  have l := lp01 y
  have s2 := gbeg_step (y + 78)
  have l2 := lp01 (y + 78)
  have ws := wbeg_step y
  have w0 := wbeg_near y
  have w1 := wbeg_near (y + 1)
  rcases seven hk with h | h | h | h | h | h | h <;> subst h
  · rw [lbeg0, lbeg0]; refine ⟨by omega, by omega, by omega⟩
  · rw [lbeg1, lbeg1]; unfold jbeg; refine ⟨by omega, by omega, by omega⟩
  · rw [lbeg2, lbeg2]; unfold ibeg; refine ⟨by omega, by omega, by omega⟩
  · rw [lbeg3, lbeg3]; unfold cbeg; refine ⟨by omega, by omega, by omega⟩
  · rw [lbeg4, lbeg4]; unfold nbeg; rw [show y + 1 + 78 = y + 78 + 1 by omega]; refine ⟨by omega, by omega, by omega⟩
  · rw [lbeg5, lbeg5]; refine ⟨by omega, by omega, by omega⟩
  · rw [lbeg6, lbeg6]; refine ⟨by omega, by omega, by omega⟩
theorem lstep2 {k : Int} (hk : 0 ≤ k ∧ k ≤ 6) (y : Int) : lbeg k y + 354 ≤ lbeg k (y + 1) ∧ lbeg k (y + 1) ≤ lbeg k y + 371 := by
  have := lstep hk y
  omega
theorem lbeg_mono {k : Int} (hk : 0 ≤ k ∧ k ≤ 6) : ∀ (n : Nat) (y : Int), lbeg k y ≤ lbeg k (y + n)
  | 0, y => by simp
  | n + 1, y => by
    have h1 := lbeg_mono hk n y
    have h2 := lstep2 hk (y + n)
    rw [show y + ((n + 1 : Nat) : Int) = y + n + 1 by omega]
    omega
theorem lbeg_le {k y z : Int} (hk : 0 ≤ k ∧ k ≤ 6) (h : y ≤ z) : lbeg k y ≤ lbeg k z := by
  have := lbeg_mono hk (z - y).toNat y
  rw [show y + ((z - y).toNat : Int) = z by omega] at this
  exact this
theorem lbeg_lt {k y z : Int} (hk : 0 ≤ k ∧ k ≤ 6) (h : y < z) : lbeg k (y + 1) ≤ lbeg k z := lbeg_le hk (by omega)
theorem flat_sum (c : Int) : ∀ n : Nat, (List.replicate n [c]).flatten.sum = n * c
  | 0 => by simp
  | n + 1 => by
    rw [List.replicate_succ, List.flatten_cons, List.sum_append, flat_sum c n]
    simp [Int.add_mul]
    omega
theorem leng_sum {k D : Int} (h6 : k = 6 → D % 7 = 0 ∧ 0 ≤ D) : (leng k D).sum = D := by
  unfold leng
  split
  · simp only [List.sum_cons, List.sum_nil]; omega
  split
  · simp only [List.sum_cons, List.sum_nil]; omega
  split
  · simp only [List.sum_cons, List.sum_nil]; omega
  split
  · simp only [List.sum_cons, List.sum_nil]; omega
  split
  · rename_i h; rw [flat_sum]; have := h6 h; omega
  · simp only [List.sum_cons, List.sum_nil]; omega
theorem llen_sum {k : Int} (hk : 0 ≤ k ∧ k ≤ 6) (y : Int) : (llen k y).sum = lbeg k (y + 1) - lbeg k y := by
  have := lstep hk y
  exact leng_sum (by omega)
theorem flat_all (c : Int) (n : Nat) : ∀ x ∈ (List.replicate n [c]).flatten, x = c := by
  rw [krep_flat]
  exact fun x hx => List.eq_of_mem_replicate hx
theorem leng_pos {k D : Int} (h : 354 ≤ D) (h4 : k ≠ 2 → 361 ≤ D) : ∀ x ∈ leng k D, 1 ≤ x := by
  unfold leng
  intro x
  split
  · simp only [List.mem_cons, List.not_mem_nil, or_false]; omega
  split
  · simp only [List.mem_cons, List.not_mem_nil, or_false]; omega
  split
  · simp only [List.mem_cons, List.not_mem_nil, or_false]; omega
  split
  · simp only [List.mem_cons, List.not_mem_nil, or_false]; omega
  split
  · intro hx; have := flat_all _ _ _ hx; omega
  · simp only [List.mem_cons, List.not_mem_nil, or_false]; omega
theorem llen_pos {k : Int} (hk : 0 ≤ k ∧ k ≤ 6) (y : Int) : ∀ x ∈ llen k y, 1 ≤ x := by
  have := lstep hk y
  exact leng_pos (by omega) (by omega)
theorem leng_len {k D : Int} (hk : 0 ≤ k ∧ k ≤ 6) : ((leng k D).length : Int) = if k = 3 then 13 else if k = 5 then 1 else if k = 6 then ((D / 7).toNat : Int) else 12 := by
  unfold leng
  rcases seven hk with h | h | h | h | h | h | h <;> subst h <;> first | rfl | (simp [krep_flat])
theorem llen_len {k : Int} (hk : 0 ≤ k ∧ k ≤ 6) (y : Int) : 1 ≤ ((llen k y).length : Int) ∧ ((llen k y).length : Int) ≤ 53 := by
  have := lstep hk y
  unfold llen
  rw [leng_len hk]
  split
  · omega
  split
  · omega
  split
  · rename_i h; have := this.1 h; omega
  · omega
theorem cum_one (l : List Int) : cum l 1 = 0 := rfl
theorem cum_succ {l : List Int} {m : Int} (h1 : 1 ≤ m) (h2 : m ≤ l.length) : cum l (m + 1) = cum l m + at1 l m := by
  unfold cum at1
  have e : (m + 1 - 1).toNat = (m - 1).toNat + 1 := by omega
  have hl : (m - 1).toNat < l.length := by omega
  rw [e, List.take_add_one, List.sum_append, List.getD_eq_getElem?_getD, List.getElem?_eq_getElem hl]
  simp
theorem cum_all (l : List Int) : cum l (l.length + 1) = l.sum := by
  unfold cum
  rw [show ((l.length : Int) + 1 - 1).toNat = l.length by omega, List.take_length]
theorem at1_mem {l : List Int} {m : Int} (h1 : 1 ≤ m) (h2 : m ≤ l.length) : at1 l m ∈ l := by
  unfold at1
  have hl : (m - 1).toNat < l.length := by omega
  rw [List.getD_eq_getElem?_getD, List.getElem?_eq_getElem hl]
  exact List.getElem_mem hl
theorem cum_step {l : List Int} (hp : ∀ x ∈ l, 1 ≤ x) {m : Int} (h1 : 1 ≤ m) : ∀ n : Nat, m + n ≤ l.length + 1 → cum l m ≤ cum l (m + n)
  | 0, _ => by simp
  | n + 1, h => by
    have i := cum_step hp h1 n (by omega)
    have s := cum_succ (l := l) (m := m + n) (by omega) (by omega)
    have p := hp _ (at1_mem (l := l) (m := m + n) (by omega) (by omega))
    rw [show m + ((n + 1 : Nat) : Int) = m + n + 1 by omega]
    omega
theorem cum_le {l : List Int} (hp : ∀ x ∈ l, 1 ≤ x) {m o : Int} (h1 : 1 ≤ m) (h : m ≤ o) (h2 : o ≤ l.length + 1) : cum l m ≤ cum l o := by
  have := cum_step hp h1 (o - m).toNat (by omega)
  rw [show m + ((o - m).toNat : Int) = o by omega] at this
  exact this
theorem LDay.ge {k n y m d : Int} (hk : 0 ≤ k ∧ k ≤ 6) (h : LDay k n y m d) : lbeg k y ≤ n := by
  obtain ⟨m1, m2, d1, d2, e⟩ := h
  have := cum_le (llen_pos hk y) (m := 1) (o := m) (by omega) m1 (by omega)
  rw [cum_one] at this
  omega
theorem LDay.lt {k n y m d : Int} (hk : 0 ≤ k ∧ k ≤ 6) (h : LDay k n y m d) : n < lbeg k (y + 1) := by
  obtain ⟨m1, m2, d1, d2, e⟩ := h
  have s := cum_succ m1 m2
  have a := cum_le (llen_pos hk y) (m := m + 1) (o := (llen k y).length + 1) (by omega) (by omega) (by omega)
  rw [cum_all, llen_sum hk] at a
  omega
abbrev Lex (a b c Y M D : Int) : Prop := a < Y ∨ a = Y ∧ (b < M ∨ b = M ∧ c < D)
/-- the first date from the row on, and its day -/
def Nxt (k Y M D y m d N : Int) : Prop :=
  (M < 1 ∧ y = Y ∧ m = 1 ∧ d = 1 ∨ (1 ≤ M ∧ M ≤ (llen k Y).length) ∧ D < 1 ∧ y = Y ∧ m = M ∧ d = 1
    ∨ (1 ≤ M ∧ M + 1 ≤ (llen k Y).length) ∧ at1 (llen k Y) M < D ∧ y = Y ∧ m = M + 1 ∧ d = 1
    ∨ M = (llen k Y).length ∧ at1 (llen k Y) M < D ∧ y = Y + 1 ∧ m = 1 ∧ d = 1
    ∨ (1 ≤ M ∧ M ≤ (llen k Y).length) ∧ (1 ≤ D ∧ D ≤ at1 (llen k Y) M) ∧ y = Y ∧ m = M ∧ d = D
    ∨ (llen k Y).length < M ∧ y = Y + 1 ∧ m = 1 ∧ d = 1) ∧ N = lbeg k y + cum (llen k y) m + d - 1
theorem Nxt.day {k Y M D y m d N : Int} (hk : 0 ≤ k ∧ k ≤ 6) (h : Nxt k Y M D y m d N) : LDay k N y m d := by
  have l0 := llen_len hk Y
  have l1 := llen_len hk (Y + 1)
  obtain ⟨h, e⟩ := h
  refine ⟨?_, ?_, ?_, ?_, e⟩
  · omega
  · rcases h with h | h | h | h | h | h <;> (obtain ⟨a, b⟩ := h)
    · obtain ⟨rfl, rfl, rfl⟩ := b; omega
    · obtain ⟨b, rfl, rfl, rfl⟩ := b; omega
    · obtain ⟨b, rfl, rfl, rfl⟩ := b; omega
    · obtain ⟨b, rfl, rfl, rfl⟩ := b; omega
    · obtain ⟨b, rfl, rfl, rfl⟩ := b; omega
    · obtain ⟨rfl, rfl, rfl⟩ := b; omega
  · omega
  · have p : ∀ z i, 1 ≤ i → i ≤ ((llen k z).length : Int) → 1 ≤ at1 (llen k z) i := fun z i a b => llen_pos hk z _ (at1_mem a b)
    rcases h with h | h | h | h | h | h <;> (obtain ⟨a, b⟩ := h)
    · obtain ⟨rfl, rfl, rfl⟩ := b; exact p _ _ (by omega) (by omega)
    · obtain ⟨b, rfl, rfl, rfl⟩ := b; exact p _ _ (by omega) (by omega)
    · obtain ⟨b, rfl, rfl, rfl⟩ := b; exact p _ _ (by omega) (by omega)
    · obtain ⟨b, rfl, rfl, rfl⟩ := b; exact p _ _ (by omega) (by omega)
    · obtain ⟨b, rfl, rfl, rfl⟩ := b; exact b.2
    · obtain ⟨rfl, rfl, rfl⟩ := b; exact p _ _ (by omega) (by omega)
theorem LDay.lex {k n y m d N Y M D : Int} (hk : 0 ≤ k ∧ k ≤ 6) (h : LDay k n y m d) (g : LDay k N Y M D) : Lex y m d Y M D ↔ n < N := by
  have h1 := h.ge hk
  have h2 := h.lt hk
  have g1 := g.ge hk
  have g2 := g.lt hk
  rcases Int.lt_trichotomy y Y with q | q | q
  · have := lbeg_lt hk q; omega
  · subst q
    obtain ⟨m1, m2, d1, d2, e⟩ := h
    obtain ⟨n1, n2, b1, b2, f⟩ := g
    rcases Int.lt_trichotomy m M with q | q | q
    · have s := cum_succ m1 m2
      have a := cum_le (llen_pos hk y) (m := m + 1) (o := M) (by omega) (by omega) (by omega)
      omega
    · subst q; omega
    · have s := cum_succ n1 n2
      have a := cum_le (llen_pos hk y) (m := M + 1) (o := m) (by omega) (by omega) (by omega)
      omega
  · have := lbeg_lt hk q; omega
theorem Nxt.lex {k n a b c Y M D y m d N : Int} (hk : 0 ≤ k ∧ k ≤ 6) (g : Nxt k Y M D y m d N) (h : LDay k n a b c) : Lex a b c Y M D ↔ n < N := by
  rw [← h.lex hk (g.day hk)]
  have h1 := h.1
  have h2 := h.2.1
  have h3 := h.2.2.1
  have h4 := h.2.2.2.1
  obtain ⟨g, -⟩ := g
  by_cases ya : a = Y
  · subst ya
    by_cases yb : b = M
    · subst yb; omega
    · clear h4; omega
  · by_cases yb : a = Y + 1
    · subst yb; omega
    · clear h4; omega
theorem Nxt.same {k a b c Y M D y m d N : Int} (hk : 0 ≤ k ∧ k ≤ 6) (g : Nxt k Y M D y m d N) (h : LDay k N a b c) : a = y ∧ b = m ∧ c = d := by
  have g' := g.day hk
  have h1 := h.lex hk g'
  have h2 := g'.lex hk h
  omega
theorem Nxt.room {k Y M D y m d N : Int} (hk : 0 ≤ k ∧ k ≤ 6) (g : Nxt k Y M D y m d N) : lbeg k Y ≤ N ∧ N ≤ lbeg k Y + 371 ∧ N ≤ lbeg k (Y + 1) ∧ Y ≤ y ∧ y ≤ Y + 1 := by
  have g' := g.day hk
  have h1 := g'.ge hk
  have h2 := g'.lt hk
  have s := lstep2 hk Y
  obtain ⟨g, e⟩ := g
  have : y = Y ∨ y = Y + 1 ∧ m = 1 ∧ d = 1 := by omega
  rcases this with rfl | ⟨rfl, rfl, rfl⟩
  · omega
  · rw [cum_one] at e; omega
end
section
open PySem PySem.W PySem.Calls PyProof.Rows PySem.Flt
theorem rs_PM : True := by
  w_top off
  trivial
theorem llen0 (y : Int) : llen 0 y = [31, 28 + lp y, 31, 30, 31, 30, 31, 31, 30, 31, 30, 31] := by
  have e : lbeg 0 (y + 1) - lbeg 0 y - 337 = 28 + lp y := by rw [lbeg0, lbeg0, gbeg_step]; omega
  show [31, lbeg 0 (y + 1) - lbeg 0 y - 337, 31, 30, 31, 30, 31, 31, 30, 31, 30, 31] = _
  rw [e]
theorem llen1 (y : Int) : llen 1 y = [31, 28 + (y / 4 - (y - 1) / 4), 31, 30, 31, 30, 31, 31, 30, 31, 30, 31] := by
  have e : lbeg 1 (y + 1) - lbeg 1 y - 337 = 28 + (y / 4 - (y - 1) / 4) := by rw [lbeg1, lbeg1]; unfold jbeg; omega
  show [31, lbeg 1 (y + 1) - lbeg 1 y - 337, 31, 30, 31, 30, 31, 31, 30, 31, 30, 31] = _
  rw [e]
theorem llen2 (y : Int) : llen 2 y = [30, 29, 30, 29, 30, 29, 30, 29, 30, 29, 30, 29 + ((3 + 11 * (y + 1)) / 30 - (3 + 11 * y) / 30)] := by
  have e : lbeg 2 (y + 1) - lbeg 2 y - 325 = 29 + ((3 + 11 * (y + 1)) / 30 - (3 + 11 * y) / 30) := by rw [lbeg2, lbeg2]; unfold ibeg; omega
  show [30, 29, 30, 29, 30, 29, 30, 29, 30, 29, 30, lbeg 2 (y + 1) - lbeg 2 y - 325] = _
  rw [e]
theorem llen3 (y : Int) : llen 3 y = [30, 30, 30, 30, 30, 30, 30, 30, 30, 30, 30, 30, 5 + ((y + 1) / 4 - y / 4)] := by
  have e : lbeg 3 (y + 1) - lbeg 3 y - 360 = 5 + ((y + 1) / 4 - y / 4) := by rw [lbeg3, lbeg3]; unfold cbeg; omega
  show [30, 30, 30, 30, 30, 30, 30, 30, 30, 30, 30, 30, lbeg 3 (y + 1) - lbeg 3 y - 360] = _
  rw [e]
theorem llen4 (y : Int) : llen 4 y = [30 + lp (y + 78), 31, 31, 31, 31, 31, 30, 30, 30, 30, 30, 30] := by
  have e : lbeg 4 (y + 1) - lbeg 4 y - 335 = 30 + lp (y + 78) := by rw [lbeg4, lbeg4]; unfold nbeg; rw [show y + 1 + 78 = y + 78 + 1 by omega, gbeg_step]; omega
  show [lbeg 4 (y + 1) - lbeg 4 y - 335, 31, 31, 31, 31, 31, 30, 30, 30, 30, 30, 30] = _
  rw [e]
theorem llen5 (y : Int) : llen 5 y = [365 + lp y] := by
  have e : lbeg 5 (y + 1) - lbeg 5 y = 365 + lp y := by rw [lbeg5, lbeg5, gbeg_step]; omega
  show [lbeg 5 (y + 1) - lbeg 5 y] = _
  rw [e]
theorem llen6 (y : Int) : llen 6 y = List.replicate ((wbeg (y + 1) - wbeg y) / 7).toNat 7 := krep_flat 7 _
/-- a row of twelve -/
theorem row12 {k n y m d a1 a2 a3 a4 a5 a6 a7 a8 a9 a10 a11 a12 : Int} (hl : llen k y = [a1, a2, a3, a4, a5, a6, a7, a8, a9, a10, a11, a12]) : LDay k n y m d ↔ (1 ≤ m ∧ m ≤ 12) ∧ 1 ≤ d ∧
    ((m = 1 → d ≤ a1 ∧ n = lbeg k y + d - 1) ∧ (m = 2 → d ≤ a2 ∧ n = lbeg k y + a1 + d - 1) ∧ (m = 3 → d ≤ a3 ∧ n = lbeg k y + (a1 + a2) + d - 1) ∧ (m = 4 → d ≤ a4 ∧ n = lbeg k y + (a1 + a2 + a3) + d - 1) ∧
      (m = 5 → d ≤ a5 ∧ n = lbeg k y + (a1 + a2 + a3 + a4) + d - 1) ∧ (m = 6 → d ≤ a6 ∧ n = lbeg k y + (a1 + a2 + a3 + a4 + a5) + d - 1) ∧ (m = 7 → d ≤ a7 ∧ n = lbeg k y + (a1 + a2 + a3 + a4 + a5 + a6) + d - 1) ∧
      (m = 8 → d ≤ a8 ∧ n = lbeg k y + (a1 + a2 + a3 + a4 + a5 + a6 + a7) + d - 1) ∧ (m = 9 → d ≤ a9 ∧ n = lbeg k y + (a1 + a2 + a3 + a4 + a5 + a6 + a7 + a8) + d - 1) ∧
      (m = 10 → d ≤ a10 ∧ n = lbeg k y + (a1 + a2 + a3 + a4 + a5 + a6 + a7 + a8 + a9) + d - 1) ∧ (m = 11 → d ≤ a11 ∧ n = lbeg k y + (a1 + a2 + a3 + a4 + a5 + a6 + a7 + a8 + a9 + a10) + d - 1) ∧
      (m = 12 → d ≤ a12 ∧ n = lbeg k y + (a1 + a2 + a3 + a4 + a5 + a6 + a7 + a8 + a9 + a10 + a11) + d - 1)) := by
  unfold LDay
  rw [hl]
  constructor
  · rintro ⟨m1, m2, d1, d2, e⟩
    have m2' : m ≤ 12 := m2
    have : m = 1 ∨ m = 2 ∨ m = 3 ∨ m = 4 ∨ m = 5 ∨ m = 6 ∨ m = 7 ∨ m = 8 ∨ m = 9 ∨ m = 10 ∨ m = 11 ∨ m = 12 := by omega
    refine ⟨⟨m1, m2'⟩, d1, ?_⟩
    rcases this with q | q | q | q | q | q | q | q | q | q | q | q <;> subst q
    all_goals (
      simp [cum, at1] at d2 e
      omega)
  · rintro ⟨⟨m1, m2⟩, d1, h⟩
    refine ⟨m1, m2, d1, ?_⟩
    have : m = 1 ∨ m = 2 ∨ m = 3 ∨ m = 4 ∨ m = 5 ∨ m = 6 ∨ m = 7 ∨ m = 8 ∨ m = 9 ∨ m = 10 ∨ m = 11 ∨ m = 12 := by omega
    rcases this with q | q | q | q | q | q | q | q | q | q | q | q <;> subst q
    all_goals (
      simp [cum, at1] at h ⊢
      omega)
theorem g_LDay {n y m d : Int} (h : GDay n y m d) : LDay 0 n y m d := by
  obtain ⟨⟨h1, h2, h3, h4⟩, m1, m2, -, -, l0, l1, h⟩ := h
  have : m = 1 ∨ m = 2 ∨ m = 3 ∨ m = 4 ∨ m = 5 ∨ m = 6 ∨ m = 7 ∨ m = 8 ∨ m = 9 ∨ m = 10 ∨ m = 11 ∨ m = 12 := by omega
  rw [row12 (llen0 y), lbeg0]
  rcases this with q | q | q | q | q | q | q | q | q | q | q | q <;> subst q
  all_goals (refine ⟨⟨m1, m2⟩, h1, ?_⟩; simp at h h3 h4 ⊢; omega)
theorem g_back {n y m d : Int} (h : LDay 0 n y m d) : (GV y m d ∧ 1 ≤ m ∧ m ≤ 12) ∧ ((m ≤ 2 ∧ n = gbeg y + (367 * m - 362) / 12 + d - 1) ∨ (2 < m ∧ n = gbeg y + (367 * m - 362) / 12 + d - 3 + lp y)) := by
  rw [row12 (llen0 y), lbeg0] at h
  have l := lp01 y
  obtain ⟨⟨m1, m2⟩, d1, h⟩ := h
  have : m = 1 ∨ m = 2 ∨ m = 3 ∨ m = 4 ∨ m = 5 ∨ m = 6 ∨ m = 7 ∨ m = 8 ∨ m = 9 ∨ m = 10 ∨ m = 11 ∨ m = 12 := by omega
  rcases this with q | q | q | q | q | q | q | q | q | q | q | q <;> subst q
  all_goals (simp at h; refine ⟨⟨⟨d1, by omega, by omega, by omega⟩, m1, m2⟩, ?_⟩; omega)
theorem j_LDay {n y m d : Int} (h : JDay n y m d) : LDay 1 n y m d := by
  obtain ⟨⟨h1, h2, h3, h3', h4⟩, m1, m2, -, -, h⟩ := h
  have : m = 1 ∨ m = 2 ∨ m = 3 ∨ m = 4 ∨ m = 5 ∨ m = 6 ∨ m = 7 ∨ m = 8 ∨ m = 9 ∨ m = 10 ∨ m = 11 ∨ m = 12 := by omega
  rw [row12 (llen1 y), lbeg1]
  unfold jnum at h
  unfold jbeg
  rcases this with q | q | q | q | q | q | q | q | q | q | q | q <;> subst q
  all_goals (refine ⟨⟨m1, m2⟩, h1, ?_⟩; simp at h h3 h4 h3' ⊢; omega)
theorem j_back {n y m d : Int} (h : LDay 1 n y m d) : (JVal y m d ∧ 1 ≤ m ∧ m ≤ 12) ∧ ((2 < m ∧ n = jnum y m d) ∨ (m ≤ 2 ∧ n = jnum (y - 1) (m + 12) d)) := by
  rw [row12 (llen1 y), lbeg1] at h
  unfold jbeg at h
  unfold jnum
  obtain ⟨⟨m1, m2⟩, d1, h⟩ := h
  have : m = 1 ∨ m = 2 ∨ m = 3 ∨ m = 4 ∨ m = 5 ∨ m = 6 ∨ m = 7 ∨ m = 8 ∨ m = 9 ∨ m = 10 ∨ m = 11 ∨ m = 12 := by omega
  rcases this with q | q | q | q | q | q | q | q | q | q | q | q <;> subst q
  all_goals (simp at h; refine ⟨⟨⟨d1, by omega, by omega, by omega, by omega⟩, m1, m2⟩, ?_⟩; omega)
theorem i_LDay {n y m d : Int} (h : IDay n y m d) : LDay 2 n y m d := by
  obtain ⟨m1, m2, d1, d2, h3, h4, h, -, -⟩ := h
  have : m = 1 ∨ m = 2 ∨ m = 3 ∨ m = 4 ∨ m = 5 ∨ m = 6 ∨ m = 7 ∨ m = 8 ∨ m = 9 ∨ m = 10 ∨ m = 11 ∨ m = 12 := by omega
  rw [row12 (llen2 y), lbeg2]
  unfold ibeg
  rcases this with q | q | q | q | q | q | q | q | q | q | q | q <;> subst q
  all_goals (refine ⟨⟨m1, m2⟩, d1, ?_⟩; simp at h h3 h4 ⊢; omega)
theorem i_back {n y m d : Int} (h : LDay 2 n y m d) : (1 ≤ m ∧ m ≤ 12 ∧ 1 ≤ d ∧ d ≤ 30) ∧ n = d + (59 * (m - 1) + 1) / 2 + 354 * (y - 1) + (3 + 11 * y) / 30 + 1948439 := by
  rw [row12 (llen2 y), lbeg2] at h
  unfold ibeg at h
  obtain ⟨⟨m1, m2⟩, d1, h⟩ := h
  have : m = 1 ∨ m = 2 ∨ m = 3 ∨ m = 4 ∨ m = 5 ∨ m = 6 ∨ m = 7 ∨ m = 8 ∨ m = 9 ∨ m = 10 ∨ m = 11 ∨ m = 12 := by omega
  rcases this with q | q | q | q | q | q | q | q | q | q | q | q <;> subst q
  all_goals (simp at h; refine ⟨⟨m1, m2, d1, by omega⟩, ?_⟩; omega)
theorem n_LDay {n y m d : Int} (h : NDay n y m d) : LDay 4 n y m d := by
  obtain ⟨g, rfl, m1, m2, d1, d2, h3, h4, -, -, l0, l1, h⟩ := h
  have : m = 1 ∨ m = 2 ∨ m = 3 ∨ m = 4 ∨ m = 5 ∨ m = 6 ∨ m = 7 ∨ m = 8 ∨ m = 9 ∨ m = 10 ∨ m = 11 ∨ m = 12 := by omega
  rw [row12 (llen4 _), lbeg4]
  unfold nbeg
  rw [show g - 78 + 78 = g by omega]
  rcases this with q | q | q | q | q | q | q | q | q | q | q | q <;> subst q
  all_goals (refine ⟨⟨m1, m2⟩, d1, ?_⟩; simp at h h3 h4 ⊢; omega)
theorem n_back {n y m d : Int} (h : LDay 4 n y m d) : (1 ≤ m ∧ m ≤ 12 ∧ 1 ≤ d ∧ d ≤ 31) ∧ ((m = 1 ∧ n = gbeg (y + 78) + 79 + d) ∨ (2 ≤ m ∧ m ≤ 7 ∧ n = gbeg (y + 78) + 109 + lp (y + 78) + 31 * (m - 2) + d) ∨ (8 ≤ m ∧ n = gbeg (y + 78) + 264 + lp (y + 78) + 30 * (m - 7) + d)) := by
  rw [row12 (llen4 y), lbeg4] at h
  unfold nbeg at h
  have l := lp01 (y + 78)
  obtain ⟨⟨m1, m2⟩, d1, h⟩ := h
  have : m = 1 ∨ m = 2 ∨ m = 3 ∨ m = 4 ∨ m = 5 ∨ m = 6 ∨ m = 7 ∨ m = 8 ∨ m = 9 ∨ m = 10 ∨ m = 11 ∨ m = 12 := by omega
  rcases this with q | q | q | q | q | q | q | q | q | q | q | q <;> subst q
  all_goals (simp at h; refine ⟨⟨m1, m2, d1, by omega⟩, ?_⟩; omega)
theorem c_row {n y m d : Int} : LDay 3 n y m d ↔ (1 ≤ m ∧ m ≤ 13) ∧ 1 ≤ d ∧ (m ≤ 12 → d ≤ 30) ∧ (m = 13 → d ≤ 5 + ((y + 1) / 4 - y / 4)) ∧ n = d + 30 * (m - 1) + 365 * (y - 1) + y / 4 + 1825029 := by
  unfold LDay
  rw [llen3, lbeg3]
  unfold cbeg
  constructor
  · rintro ⟨m1, m2, d1, d2, e⟩
    have m2' : m ≤ 13 := m2
    have : m = 1 ∨ m = 2 ∨ m = 3 ∨ m = 4 ∨ m = 5 ∨ m = 6 ∨ m = 7 ∨ m = 8 ∨ m = 9 ∨ m = 10 ∨ m = 11 ∨ m = 12 ∨ m = 13 := by omega
    refine ⟨⟨m1, m2'⟩, d1, ?_⟩
    rcases this with q | q | q | q | q | q | q | q | q | q | q | q | q <;> subst q
    all_goals (
      simp [cum, at1] at d2 e ⊢
      omega)
  · rintro ⟨⟨m1, m2⟩, d1, h⟩
    refine ⟨m1, m2, d1, ?_⟩
    have : m = 1 ∨ m = 2 ∨ m = 3 ∨ m = 4 ∨ m = 5 ∨ m = 6 ∨ m = 7 ∨ m = 8 ∨ m = 9 ∨ m = 10 ∨ m = 11 ∨ m = 12 ∨ m = 13 := by omega
    rcases this with q | q | q | q | q | q | q | q | q | q | q | q | q <;> subst q
    all_goals (
      simp [cum, at1] at h ⊢
      omega)
theorem c_LDay {n y m d : Int} (h : CDay n y m d) : LDay 3 n y m d := by
  rw [c_row]
  omega
theorem c_back {n y m d : Int} (h : LDay 3 n y m d) : (1 ≤ m ∧ m ≤ 13 ∧ 1 ≤ d ∧ d ≤ 30) ∧ n = d + 30 * (m - 1) + 365 * (y - 1) + y / 4 + 1825029 := by
  rw [c_row] at h
  omega
theorem o_LDay {n y d : Int} (h : ODay n y d) : LDay 5 n y 1 d := by
  unfold LDay
  rw [llen5, lbeg5]
  simp [cum, at1]
  omega
theorem o_back {n y m d : Int} (h : LDay 5 n y m d) : m = 1 ∧ 1 ≤ d ∧ d ≤ 366 ∧ n = gbeg y + d - 1 := by
  obtain ⟨m1, m2, d1, d2, e⟩ := h
  rw [llen5] at m2 d2 e
  rw [lbeg5] at e
  have l := lp01 y
  have : m = 1 := by simp at m2; omega
  subst this
  simp [cum, at1] at d2 e
  omega
theorem w_row {n y w d : Int} : LDay 6 n y w d ↔ 1 ≤ d ∧ d ≤ 7 ∧ 1 ≤ w ∧ n = wbeg y + 7 * (w - 1) + d - 1 ∧ n < wbeg (y + 1) := by
  have st := wbeg_near y
  have st1 := wbeg_near (y + 1)
  have ws := wbeg_step y
  unfold LDay
  rw [llen6, lbeg6]
  have hc : ∀ i, 1 ≤ i → i ≤ ((wbeg (y + 1) - wbeg y) / 7) → cum (List.replicate ((wbeg (y + 1) - wbeg y) / 7).toNat 7) i = 7 * (i - 1) := by
    intro i h1 h2
    unfold cum
    rw [List.take_replicate, show min (i - 1).toNat ((wbeg (y + 1) - wbeg y) / 7).toNat = (i - 1).toNat by omega, List.sum_replicate_int]
    omega
  have ha : ∀ i, 1 ≤ i → i ≤ ((wbeg (y + 1) - wbeg y) / 7) → at1 (List.replicate ((wbeg (y + 1) - wbeg y) / 7).toNat 7) i = 7 := by
    intro i h1 h2
    unfold at1
    rw [List.getD_eq_getElem?_getD, List.getElem?_replicate, if_pos (by omega)]
    rfl
  rw [List.length_replicate]
  constructor
  · rintro ⟨m1, m2, d1, d2, e⟩
    rw [hc w m1 (by omega)] at e
    rw [ha w m1 (by omega)] at d2
    omega
  · rintro ⟨d1, d2, m1, e, l⟩
    have q : w ≤ (wbeg (y + 1) - wbeg y) / 7 := by omega
    rw [hc w m1 q, ha w m1 q]
    omega
end
section
open PySem PySem.W PySem.Calls PyProof.Rows PySem.Flt
local macro_rules | `(tactic| walk_at "execs cons") => `(tactic| ((with_reducible refine gentok fun tk => ?_); (with_reducible refine wpAny_execs_cons ?_)))
local macro_rules | `(tactic| walk_at "execs nil") => `(tactic| ((with_reducible refine gentok fun tk => ?_); (with_reducible refine wpAny_execs_nil ?_)))

section
open PySem PySem.W PySem.Calls PyProof.Rows PySem.Flt
theorem rs_LA : True := by
  w_top off
  trivial
section
variable {w : World} {mean : ExcName → Option Value} {mg mb : Str → Option Value}
section
variable {prog : Program} {w : World} {A : Around} {E : Value → Shared → Prop} {s : Shared} {Q : Value → Shared → Prop} {h₀ : Heap} {L : Addr} {mm : Str → Option Value} {news : List (Addr × Obj)} {a b : Int} {t u : Tok}
theorem q_len {D : Addr} {ys : List Value} {ns : List Int} {n : Nat} (N : News h₀ L s.heap news) (hm : (D, ({ cls := .type "list", data := .seq ys.toArray n } : Obj)) ∈ news) (hi : IntsAre ys ns) (hz : ys.length ≤ 1000)
    (h : ∀ c : Int, c = (ns.length : Int) → ∀ t tk, Q (.int c t) { s with toks := tk }) : wpAny (model prog w) A (call (.builtin "len") [.ref D]) Q E s := by
  have hl : s.heap.IsList D ys.toArray := News.isList N hm
  refine @Held.out _ (Calls.call_len_listh hl (by simp; omega) ?_)
  exact h _ (by simp [hi.length]) _ _
theorem q_divmod (F : Fr h₀ L s.heap mm) (N : News h₀ L s.heap news) (hb : 0 < b) (hb2 : b < 1073741824)
    (h : ∀ (q r : Int) (D : Addr) (t1 t2 : Tok) (h' : Heap) (tk : Nat), q = a / b → r = a % b → Fr h₀ L h' mm → News h₀ L h' ((D, ({ cls := .type "tuple", data := .seq #[.int q t1, .int r t2] } : Obj)) :: news) → AllLt D news → Q (.ref D) { s with heap := h', toks := tk }) :
    wpAny (model prog w) A (call (.builtin "divmod") [.int a t, .int b u]) Q E s :=
  divmod_N F N (by omega) (fun h' F' N' => h _ _ _ _ _ h' _ (Int.fdiv_eq_ediv_of_nonneg _ (by omega)) (Int.fmod_eq_emod_of_nonneg _ (by omega)) F' N' (allLt_size N)) (Or.inl (PyProof.noPylong_small (by omega)))
end
local macro_rules | `(tactic| walk_at "call builtin:divmod") => `(tactic| (k_here; (with_reducible show wpAny _ _ (call (Value.builtin _) [Value.int _ _, Value.int _ _]) _ _ _); k_dflt (refine' q_divmod ?F ?N ?b ?b2 ?_; (case F => k_asm); (case N => k_asm); (case b => first | decide | omega); (case b2 => first | decide | omega)); intro q' r' D' t1' t2' h' tk' hq' hr' F' N' l1; (try simp only [AllLt, and_true] at l1)))
theorem c_kept (a r : Int) (t u : Tok) : Con w mean mg mb 271 1 [.int a t, .int r u] (0 < r ∧ r < 1000000001) mkI (fun x => x = (a + r) % (2 * r + 1) - r) := by
  refine Con.mk ?_
  walk_at "my begin"
  k_steps
  all_goals walk_at "my endI"
  all_goals omega
local macro_rules | `(tactic| walk_at "call ref") => `(tactic| (k_here; (refine wpAny_call ?_); k_dflt (refine' code_def ?k1 ?k2 ?k3 ?k4 ?k5 ?kA ?kF ?kK ?k6 ?k7 ?k8 ?k9 ?kB ?_ ?c2 ?c3 ?c4 ?c5; (case kA => exact rfl); (case kF => exact rfl); (case kK => first | exact rfl | assumption); (case k1 => k_asm); (case k2 => k_asm); (case k3 => k_asm); (case k4 => k_asm); (case k5 => k_asm); (case k6 => k_is); (case k7 => k_is); (case k8 => ktr_room); (case k9 => exact BindsTo.of_eq rfl); (case c5 => decide); (case kB => exact locs rfl); (case c2 => exact rfl); (case c3 => exact rfl); (case c4 => exact rfl); k_whole; intro g' L' h' FG' F' N' B' X' T'; (try dsimp only); (try k_lift B'); (try k_fold))))
theorem all_of_allLt {d c : Nat} {l : List (Addr × Obj)} (h : AllLt d l) (hc : d ≤ c) : ∀ p ∈ l, p.1 ≠ c := fun p hp e => absurd (e ▸ ktn_ltOf h p hp) (Nat.not_lt.mpr hc)
local macro_rules | `(tactic| k_all) => `(tactic| exact all_of_allLt (by assumption) (by omega))
theorem wheel_g {Y q r c3 c2 c1 c0 : Int} (hq : q = Y / 400) (hr : r = Y % 400) (h3 : c3 = r / 100) (h2 : c2 = r % 100) (h1 : c1 = c2 / 4) (h0 : c0 = r % 4) : q * 146097 + (36524 * c3 + 1461 * c1 + 365 * c0) = 365 * Y + Y / 4 - Y / 100 + Y / 400 := by omega
theorem w_end {b m x y : Int} (hm : m = (b + 3) % 7) (hb : b = gbeg y) (hx : x = b + 3 - m) : x = wbeg y := by
  subst hb hm hx
  rfl
theorem c_begin0 (y : Int) (t u : Tok) : Con w mean mg mb 290 2 [.int 0 u, .int y t] (-2000000 ≤ y ∧ y ≤ 2000000) mkI (fun x => x = gbeg y) := by
  refine Con.mk ?_
  k_fill
  intros
  rename_i hret
  refine wpAny_call ?_
  k_dflt (refine' code_defC ?k1 ?k2 ?k3 ?k4 ?k5 ?kA ?kF ?kK ?k6 ?k7 ?k8 ?k9 ?kB ?kD ?_ ?c2 ?c3 ?c4; (case kA => exact rfl); (case kF => exact rfl); (case kK => assumption); (case k1 => k_asm); (case k2 => k_asm); (case k3 => k_asm); (case k4 => k_asm); (case k5 => k_asm); (case k6 => k_is); (case k7 => k_is); (case k8 => ktr_room); (case k9 => exact BindsTo.of_eq rfl); (case kB => exact rfl); (case kD => decide +kernel); (case c2 => exact rfl); (case c3 => exact rfl); (case c4 => exact rfl); k_whole)
  intro g' L' h' tk' cells' FG' F' N' Y' B' X' T' l1
  replace l1 := allLt_of l1; k_cells Y'; (try simp only [List.cons_append, List.nil_append] at N')
  (try dsimp only); (try k_lift B'); (try k_fold)
  k_steps
  all_goals walk_at "my endI"
  all_goals (unfold gbeg; omega)
theorem c_begin1 (y : Int) (t u : Tok) : Con w mean mg mb 290 2 [.int 1 u, .int y t] (-2000000 ≤ y ∧ y ≤ 2000000) mkI (fun x => x = jbeg y) := by
  refine Con.mk ?_
  k_fill
  intros
  rename_i hret
  refine wpAny_call ?_
  k_dflt (refine' code_defC ?k1 ?k2 ?k3 ?k4 ?k5 ?kA ?kF ?kK ?k6 ?k7 ?k8 ?k9 ?kB ?kD ?_ ?c2 ?c3 ?c4; (case kA => exact rfl); (case kF => exact rfl); (case kK => assumption); (case k1 => k_asm); (case k2 => k_asm); (case k3 => k_asm); (case k4 => k_asm); (case k5 => k_asm); (case k6 => k_is); (case k7 => k_is); (case k8 => ktr_room); (case k9 => exact BindsTo.of_eq rfl); (case kB => exact rfl); (case kD => decide +kernel); (case c2 => exact rfl); (case c3 => exact rfl); (case c4 => exact rfl); k_whole)
  intro g' L' h' tk' cells' FG' F' N' Y' B' X' T' l1
  replace l1 := allLt_of l1; k_cells Y'; (try simp only [List.cons_append, List.nil_append] at N')
  (try dsimp only); (try k_lift B'); (try k_fold)
  k_steps
  all_goals walk_at "my endI"
  all_goals (unfold jbeg; omega)
theorem c_begin3 (y : Int) (t u : Tok) : Con w mean mg mb 290 2 [.int 3 u, .int y t] (-2000000 ≤ y ∧ y ≤ 2000000) mkI (fun x => x = cbeg y) := by
  refine Con.mk ?_
  k_fill
  intros
  rename_i hret
  refine wpAny_call ?_
  k_dflt (refine' code_defC ?k1 ?k2 ?k3 ?k4 ?k5 ?kA ?kF ?kK ?k6 ?k7 ?k8 ?k9 ?kB ?kD ?_ ?c2 ?c3 ?c4; (case kA => exact rfl); (case kF => exact rfl); (case kK => assumption); (case k1 => k_asm); (case k2 => k_asm); (case k3 => k_asm); (case k4 => k_asm); (case k5 => k_asm); (case k6 => k_is); (case k7 => k_is); (case k8 => ktr_room); (case k9 => exact BindsTo.of_eq rfl); (case kB => exact rfl); (case kD => decide +kernel); (case c2 => exact rfl); (case c3 => exact rfl); (case c4 => exact rfl); k_whole)
  intro g' L' h' tk' cells' FG' F' N' Y' B' X' T' l1
  replace l1 := allLt_of l1; k_cells Y'; (try simp only [List.cons_append, List.nil_append] at N')
  (try dsimp only); (try k_lift B'); (try k_fold)
  k_steps
  all_goals walk_at "my endI"
  all_goals (unfold cbeg; omega)
theorem c_begin4 (y : Int) (t u : Tok) : Con w mean mg mb 290 2 [.int 4 u, .int y t] (-2000000 ≤ y ∧ y ≤ 2000000) mkI (fun x => x = nbeg y) := by
  refine Con.mk ?_
  k_fill
  intros
  rename_i hret
  refine wpAny_call ?_
  k_dflt (refine' code_defC ?k1 ?k2 ?k3 ?k4 ?k5 ?kA ?kF ?kK ?k6 ?k7 ?k8 ?k9 ?kB ?kD ?_ ?c2 ?c3 ?c4; (case kA => exact rfl); (case kF => exact rfl); (case kK => assumption); (case k1 => k_asm); (case k2 => k_asm); (case k3 => k_asm); (case k4 => k_asm); (case k5 => k_asm); (case k6 => k_is); (case k7 => k_is); (case k8 => ktr_room); (case k9 => exact BindsTo.of_eq rfl); (case kB => exact rfl); (case kD => decide +kernel); (case c2 => exact rfl); (case c3 => exact rfl); (case c4 => exact rfl); k_whole)
  intro g' L' h' tk' cells' FG' F' N' Y' B' X' T' l1
  replace l1 := allLt_of l1; k_cells Y'; (try simp only [List.cons_append, List.nil_append] at N')
  (try dsimp only); (try k_lift B'); (try k_fold)
  k_steps
  all_goals walk_at "my endI"
  all_goals (unfold nbeg gbeg; omega)
theorem c_begin5 (y : Int) (t u : Tok) : Con w mean mg mb 290 2 [.int 5 u, .int y t] (-2000000 ≤ y ∧ y ≤ 2000000) mkI (fun x => x = gbeg y) := by
  refine Con.mk ?_
  k_fill
  intros
  rename_i hret
  refine wpAny_call ?_
  k_dflt (refine' code_defC ?k1 ?k2 ?k3 ?k4 ?k5 ?kA ?kF ?kK ?k6 ?k7 ?k8 ?k9 ?kB ?kD ?_ ?c2 ?c3 ?c4; (case kA => exact rfl); (case kF => exact rfl); (case kK => assumption); (case k1 => k_asm); (case k2 => k_asm); (case k3 => k_asm); (case k4 => k_asm); (case k5 => k_asm); (case k6 => k_is); (case k7 => k_is); (case k8 => ktr_room); (case k9 => exact BindsTo.of_eq rfl); (case kB => exact rfl); (case kD => decide +kernel); (case c2 => exact rfl); (case c3 => exact rfl); (case c4 => exact rfl); k_whole)
  intro g' L' h' tk' cells' FG' F' N' Y' B' X' T' l1
  replace l1 := allLt_of l1; k_cells Y'; (try simp only [List.cons_append, List.nil_append] at N')
  (try dsimp only); (try k_lift B'); (try k_fold)
  k_steps
  all_goals walk_at "my endI"
  all_goals (unfold gbeg; omega)
theorem c_begin6 (y : Int) (t u : Tok) : Con w mean mg mb 290 2 [.int 6 u, .int y t] (-2000000 ≤ y ∧ y ≤ 2000000) mkI (fun x => x = wbeg y) := by
  refine Con.mk ?_
  k_fill
  intros
  rename_i hret
  refine wpAny_call ?_
  k_dflt (refine' code_defC ?k1 ?k2 ?k3 ?k4 ?k5 ?kA ?kF ?kK ?k6 ?k7 ?k8 ?k9 ?kB ?kD ?_ ?c2 ?c3 ?c4; (case kA => exact rfl); (case kF => exact rfl); (case kK => assumption); (case k1 => k_asm); (case k2 => k_asm); (case k3 => k_asm); (case k4 => k_asm); (case k5 => k_asm); (case k6 => k_is); (case k7 => k_is); (case k8 => ktr_room); (case k9 => exact BindsTo.of_eq rfl); (case kB => exact rfl); (case kD => decide +kernel); (case c2 => exact rfl); (case c3 => exact rfl); (case c4 => exact rfl); k_whole)
  intro g' L' h' tk' cells' FG' F' N' Y' B' X' T' l1
  replace l1 := allLt_of l1; k_cells Y'; (try simp only [List.cons_append, List.nil_append] at N')
  (try dsimp only); (try k_lift B'); (try k_fold)
  k_steps
  all_goals walk_at "my endI"
  all_goals (refine w_end (by assumption) ?_ rfl; unfold gbeg; omega)
end
section
set_option linter.all false
def q_divmodh := fun {x0} {x1} {x2} {x3} {x4} {x5} {x6} {x7} {x8} {x9} {x10} {x11} {x12} {x13} (x14) (x15) (x16) (x17) (x18) => Held.mk (@Mine.q_divmod x0 x1 x2 x3 x4 x5 x6 x7 x8 x9 x10 x11 x12 x13 x14 x15 x16 x17 x18)
def q_lenh := fun {x0} {x1} {x2} {x3} {x4} {x5} {x6} {x7} {x8} {x9} {x10} {x11} {x12} (x13) (x14) (x15) (x16) (x17) => Held.mk (@Mine.q_len x0 x1 x2 x3 x4 x5 x6 x7 x8 x9 x10 x11 x12 x13 x14 x15 x16 x17)
end
end
section
open PySem PySem.W PySem.Calls PyProof.Rows PySem.Flt
theorem rs_LB : True := by
  w_top off
  trivial
section
variable {w : World} {mean : ExcName → Option Value} {mg mb : Str → Option Value}
local macro_rules | `(tactic| walk_at "call builtin:divmod") => `(tactic| (k_here; (with_reducible show wpAny _ _ (call (Value.builtin _) [Value.int _ _, Value.int _ _]) _ _ _); k_dflt (refine' @Held.out _ (q_divmodh ?F ?N ?b ?b2 ?_); (case F => k_asm); (case N => k_asm); (case b => first | decide | omega); (case b2 => first | decide | omega)); intro q' r' D' t1' t2' h' tk' hq' hr' F' N' l1; (try simp only [AllLt, and_true] at l1)))
local macro_rules | `(tactic| walk_at "call ref") => `(tactic| (k_here; (refine wpAny_call ?_); k_dflt (refine' code_def ?k1 ?k2 ?k3 ?k4 ?k5 ?kA ?kF ?kK ?k6 ?k7 ?k8 ?k9 ?kB ?_ ?c2 ?c3 ?c4 ?c5; (case kA => exact rfl); (case kF => exact rfl); (case kK => first | exact rfl | assumption); (case k1 => k_asm); (case k2 => k_asm); (case k3 => k_asm); (case k4 => k_asm); (case k5 => k_asm); (case k6 => k_is); (case k7 => k_is); (case k8 => ktr_room); (case k9 => exact BindsTo.of_eq rfl); (case c5 => decide); (case kB => exact locs rfl); (case c2 => exact rfl); (case c3 => exact rfl); (case c4 => exact rfl); k_whole; intro g' L' h' FG' F' N' B' X' T'; (try dsimp only); (try k_lift B'); (try k_fold))))
local macro_rules | `(tactic| walk_at "call builtin:len") => `(tactic| (k_here; (with_reducible show wpAny _ _ (call (Value.builtin "len") [Value.ref _]) _ _ _); k_dflt (refine' @Held.out _ (q_lenh ?N ?m ?i ?z ?_); (case N => k_asm); (case m => k_mem); (case i => assumption); (case z => first | assumption | omega)); intro c' hc' t' tk'))
local macro_rules | `(tactic| k_all) => `(tactic| exact all_of_allLt (by assumption) (by omega))
local macro_rules | `(tactic| walk_at "eval ListComp") => `(tactic| (k_here; k_dflt (refine LCt.ListComp_T (F₀ := by k_asm) (by with_unfolding_all rfl) (by decide) (by rfl) (by decide) (by rfl) ?_)))
theorem moons {r : Int} (h0 : 0 ≤ r) (h1 : r ≤ 29) : (((([2, 5, 7, 10, 13, 16, 18, 21, 24, 26, 29] : List Int).foldl (fun l k => if k ≤ r then l ++ [k] else l) []).length : Nat) : Int) = (14 + 11 * r) / 30 := by
  have : r = 0 ∨ r = 1 ∨ r = 2 ∨ r = 3 ∨ r = 4 ∨ r = 5 ∨ r = 6 ∨ r = 7 ∨ r = 8 ∨ r = 9 ∨ r = 10 ∨ r = 11 ∨ r = 12 ∨ r = 13 ∨ r = 14 ∨ r = 15 ∨ r = 16 ∨ r = 17 ∨ r = 18 ∨ r = 19 ∨ r = 20 ∨ r = 21 ∨ r = 22 ∨ r = 23 ∨ r = 24 ∨ r = 25 ∨ r = 26 ∨ r = 27 ∨ r = 28 ∨ r = 29 := by omega
  rcases this with rfl | rfl | rfl | rfl | rfl | rfl | rfl | rfl | rfl | rfl | rfl | rfl | rfl | rfl | rfl | rfl | rfl | rfl | rfl | rfl | rfl | rfl | rfl | rfl | rfl | rfl | rfl | rfl | rfl | rfl <;> rfl
theorem isl_beg {y q c : Int} (hq : q = (y - 1) / 30) (hc : c = (14 + 11 * ((y - 1) % 30)) / 30) : 1948440 + q * 10631 + (354 * ((y - 1) % 30) + c) = ibeg y := by
  unfold ibeg
  omega
theorem c_begin2 (y : Int) (t u : Tok) : Con w mean mg mb 290 2 [.int 2 u, .int y t] (-2000000 ≤ y ∧ y ≤ 2000000) mkI (fun x => x = ibeg y) := by
  refine Con.mk ?_
  k_fill
  intros
  rename_i hret
  refine wpAny_call ?_
  k_dflt (refine' code_defC ?k1 ?k2 ?k3 ?k4 ?k5 ?kA ?kF ?kK ?k6 ?k7 ?k8 ?k9 ?kB ?kD ?_ ?c2 ?c3 ?c4; (case kA => exact rfl); (case kF => exact rfl); (case kK => assumption); (case k1 => k_asm); (case k2 => k_asm); (case k3 => k_asm); (case k4 => k_asm); (case k5 => k_asm); (case k6 => k_is); (case k7 => k_is); (case k8 => ktr_room); (case k9 => exact BindsTo.of_eq rfl); (case kB => exact rfl); (case kD => decide +kernel); (case c2 => exact rfl); (case c3 => exact rfl); (case c4 => exact rfl); k_whole)
  intro g' L' h' tk' cells' FG' F' N' Y' B' X' T' l1
  replace l1 := allLt_of l1; k_cells Y'; (try simp only [List.cons_append, List.nil_append] at N')
  (try dsimp only); (try k_lift B'); (try k_fold)
  k_steps
  refine LCt.CompSrcT.ledger (by rfl) (by k_asm) (by k_asm) (by k_mem) (by size_fits) ?_
  intro g'
  rename (_ = (y - 1) % 30) => hr
  subst hr
  refine kci_list (ns := [2, 5, 7, 10, 13, 16, 18, 21, 24, 26, 29]) (fun l k => if k ≤ (y - 1) % 30 then l ++ [k] else l) ?_ (fun k t I oI C oC D m₂ ys l h tk E' hk hI hC hx F N off ne hM => ?_) ?_ ?_
  · repeat (first | exact IntsAre.nil | refine IntsAre.cons _ _ ?_)
  · k_steps
    · refine LCg.CompEnd.intro (by assumption) N _ (fun _ h => h) off (Or.inr ⟨_, by k_mem, rfl, _, rfl⟩) (kci_el ?_ rfl rfl)
      rw [if_pos (by assumption)]
    · refine LCg.CompEnd.intro (by assumption) N _ (fun _ h => h) off (Or.inr ⟨_, by k_mem, rfl, _, rfl⟩) (kci_no ?_ rfl)
      rw [if_neg (by assumption)]
  · unfold KPfDone
    intro ys iy hy
    replace hy : ys.length ≤ 1000 := Nat.le_trans hy (Nat.le_of_ble_eq_true rfl)
    k_steps
    all_goals walk_at "my endI"
    all_goals ((rename (_ = ((List.length _ : Nat) : Int)) => hz); (rw [moons (by omega) (by omega)] at hz); (have e := isl_beg (by assumption) hz); omega)
  · intro l k
    dsimp only
    split
    · simp
    · omega
end
end
section
open PySem PySem.W PySem.Calls PyProof.Rows PySem.Flt
theorem rs_LD : True := by
  w_top off
  trivial
section
variable {w : World} {mean : ExcName → Option Value} {mg mb : Str → Option Value}
theorem k_greg (c : Int) (t : Tok) : ConT w mean mg mb 123 4 [.float (fq c) t] (c % 4 = 2 ∧ 4 * -1999999999 - 2 ≤ c ∧ c ≤ 4 * 1999999999 - 2) (.type "tuple") (LDay 0 ((c + 2) / 4)) := by
  refine ConT.mk ?_
  intro dp un gd cn cs a ccd cl' outer A₀ base h₀ L m news s Q E B F X N T hk hd hu hp hret
  exact @Held.out _ (ConT.useh (c_from_jd ((c + 2) / 4) c t) B F X N T hk hd hu (by omega) fun y mo d t1 t2 t3 D h' tk' p => hret y mo d t1 t2 t3 D h' tk' (g_LDay p))
theorem k_jul (c : Int) (t : Tok) : ConT w mean mg mb 215 2 [.float (fq c) t] (c % 4 = 2 ∧ 4 * -1999999999 - 2 ≤ c ∧ c ≤ 4 * 1999999999 - 2) (.type "tuple") (LDay 1 ((c + 2) / 4)) := by
  refine ConT.mk ?_
  intro dp un gd cn cs a ccd cl' outer A₀ base h₀ L m news s Q E B F X N T hk hd hu hp hret
  exact @Held.out _ (ConT.useh (c_from_jul ((c + 2) / 4) c t) B F X N T hk hd hu (by omega) fun y mo d t1 t2 t3 D h' tk' p => hret y mo d t1 t2 t3 D h' tk' (j_LDay p))
theorem k_isl (c : Int) (t : Tok) : ConT w mean mg mb 165 3 [.float (fq c) t] (c % 4 = 2 ∧ 4 * -1999999999 - 2 ≤ c ∧ c ≤ 4 * 1999999999 - 2) (.type "tuple") (LDay 2 ((c + 2) / 4)) := by
  refine ConT.mk ?_
  intro dp un gd cn cs a ccd cl' outer A₀ base h₀ L m news s Q E B F X N T hk hd hu hp hret
  exact @Held.out _ (ConT.useh (c_from_isl ((c + 2) / 4) c t) B F X N T hk hd hu (by omega) fun y mo d t1 t2 t3 D h' tk' p => hret y mo d t1 t2 t3 D h' tk' (i_LDay p))
theorem k_copt (c : Int) (t : Tok) : ConT w mean mg mb 137 3 [.float (fq c) t] (c % 4 = 2 ∧ 4 * -1999999999 - 2 ≤ c ∧ c ≤ 4 * 1999999999 - 2) (.type "tuple") (LDay 3 ((c + 2) / 4)) := by
  refine ConT.mk ?_
  intro dp un gd cn cs a ccd cl' outer A₀ base h₀ L m news s Q E B F X N T hk hd hu hp hret
  exact @Held.out _ (ConT.useh (c_from_copt ((c + 2) / 4) c t) B F X N T hk hd hu (by omega) fun y mo d t1 t2 t3 D h' tk' p => hret y mo d t1 t2 t3 D h' tk' (c_LDay p))
theorem k_ind (c : Int) (t : Tok) : ConT w mean mg mb 151 6 [.float (fq c) t] (c % 4 = 2 ∧ 4 * -1899999999 - 2 ≤ c ∧ c ≤ 4 * 1899999999 - 2) (.type "tuple") (LDay 4 ((c + 2) / 4)) := by
  refine ConT.mk ?_
  intro dp un gd cn cs a ccd cl' outer A₀ base h₀ L m news s Q E B F X N T hk hd hu hp hret
  exact @Held.out _ (ConT.useh (c_from_ind ((c + 2) / 4) c t) B F X N T hk hd hu (by omega) fun y mo d t1 t2 t3 D h' tk' p => hret y mo d t1 t2 t3 D h' tk' (n_LDay p))
theorem k_ord (c : Int) (t : Tok) : ConP w mean mg mb 236 6 [.float (fq c) t] (c % 4 = 2 ∧ 4 * -1999999999 - 2 ≤ c ∧ c ≤ 4 * 1999999999 - 2) (.type "tuple") (fun y d => LDay 5 ((c + 2) / 4) y 1 d) := by
  refine ConP.mk ?_
  intro dp un gd cn cs a ccd cl' outer A₀ base h₀ L m news s Q E B F X N T hk hd hu hp hret
  exact @Held.out _ (ConP.useh (c_from_ord ((c + 2) / 4) c t) B F X N T hk hd hu (by omega) fun y d t1 t3 D h' tk' p => hret y d t1 t3 D h' tk' (o_LDay p))
theorem k_iso (c : Int) (t : Tok) : ConT w mean mg mb 179 6 [.float (fq c) t] (c % 4 = 2 ∧ 4 * 1721426 - 2 ≤ c ∧ c ≤ 4 * 5373484 - 2) (.type "datetime.IsoCalendarDate") (LDay 6 ((c + 2) / 4)) := by
  refine ConT.mk ?_
  intro dp un gd cn cs a ccd cl' outer A₀ base h₀ L m news s Q E B F X N T hk hd hu hp hret
  exact @Held.out _ (ConT.useh (c_from_iso ((c + 2) / 4) c t) B F X N T hk hd hu (by omega) fun y mo d t1 t2 t3 D h' tk' p => hret y mo d t1 t2 t3 D h' tk' (w_row.mpr p))
local macro_rules | `(tactic| walk_at "call ref") => `(tactic| (k_here; (with_reducible show wpAny _ _ (call (Value.ref 123) _) _ _ _); k_dflt (refine' @Held.out _ (ConT.useh (k_greg _ _) ?k1 ?k2 ?k3 ?k4 ?k5 ?kK ?kd ?ku ?kp ?_); (case k1 => k_asm); (case k2 => k_asm); (case k3 => k_asm); (case k4 => k_asm); (case k5 => k_asm); (case kK => first | exact rfl | assumption); (case kd => ktr_room); (case ku => ktr_units); (case kp => first | trivial | assumption | omega)); intro y9 m9 d9 t91 t92 t93 D9 h9 tk9 p9 F9 N9 l9; (try dsimp only at p9); (try dsimp only); (try simp only [AllLt, and_true] at l9)))
local macro_rules | `(tactic| walk_at "call ref") => `(tactic| (k_here; (with_reducible show wpAny _ _ (call (Value.ref 215) _) _ _ _); k_dflt (refine' @Held.out _ (ConT.useh (k_jul _ _) ?k1 ?k2 ?k3 ?k4 ?k5 ?kK ?kd ?ku ?kp ?_); (case k1 => k_asm); (case k2 => k_asm); (case k3 => k_asm); (case k4 => k_asm); (case k5 => k_asm); (case kK => first | exact rfl | assumption); (case kd => ktr_room); (case ku => ktr_units); (case kp => first | trivial | assumption | omega)); intro y9 m9 d9 t91 t92 t93 D9 h9 tk9 p9 F9 N9 l9; (try dsimp only at p9); (try dsimp only); (try simp only [AllLt, and_true] at l9)))
local macro_rules | `(tactic| walk_at "call ref") => `(tactic| (k_here; (with_reducible show wpAny _ _ (call (Value.ref 165) _) _ _ _); k_dflt (refine' @Held.out _ (ConT.useh (k_isl _ _) ?k1 ?k2 ?k3 ?k4 ?k5 ?kK ?kd ?ku ?kp ?_); (case k1 => k_asm); (case k2 => k_asm); (case k3 => k_asm); (case k4 => k_asm); (case k5 => k_asm); (case kK => first | exact rfl | assumption); (case kd => ktr_room); (case ku => ktr_units); (case kp => first | trivial | assumption | omega)); intro y9 m9 d9 t91 t92 t93 D9 h9 tk9 p9 F9 N9 l9; (try dsimp only at p9); (try dsimp only); (try simp only [AllLt, and_true] at l9)))
local macro_rules | `(tactic| walk_at "call ref") => `(tactic| (k_here; (with_reducible show wpAny _ _ (call (Value.ref 137) _) _ _ _); k_dflt (refine' @Held.out _ (ConT.useh (k_copt _ _) ?k1 ?k2 ?k3 ?k4 ?k5 ?kK ?kd ?ku ?kp ?_); (case k1 => k_asm); (case k2 => k_asm); (case k3 => k_asm); (case k4 => k_asm); (case k5 => k_asm); (case kK => first | exact rfl | assumption); (case kd => ktr_room); (case ku => ktr_units); (case kp => first | trivial | assumption | omega)); intro y9 m9 d9 t91 t92 t93 D9 h9 tk9 p9 F9 N9 l9; (try dsimp only at p9); (try dsimp only); (try simp only [AllLt, and_true] at l9)))
local macro_rules | `(tactic| walk_at "call ref") => `(tactic| (k_here; (with_reducible show wpAny _ _ (call (Value.ref 151) _) _ _ _); k_dflt (refine' @Held.out _ (ConT.useh (k_ind _ _) ?k1 ?k2 ?k3 ?k4 ?k5 ?kK ?kd ?ku ?kp ?_); (case k1 => k_asm); (case k2 => k_asm); (case k3 => k_asm); (case k4 => k_asm); (case k5 => k_asm); (case kK => first | exact rfl | assumption); (case kd => ktr_room); (case ku => ktr_units); (case kp => first | trivial | assumption | omega)); intro y9 m9 d9 t91 t92 t93 D9 h9 tk9 p9 F9 N9 l9; (try dsimp only at p9); (try dsimp only); (try simp only [AllLt, and_true] at l9)))
theorem ld_end {k k' n c y m d : Int} (h : LDay k' ((c + 2) / 4) y m d) (hk : k = k') (hc : c = 4 * n - 2) : LDay k n y m d := by
  subst hk
  rw [show (c + 2) / 4 = n by omega] at h
  exact h
theorem c_date3 (k n : Int) (t u : Tok) : ConT w mean mg mb 278 8 [.int k u, .int n t] (0 ≤ k ∧ k ≤ 4 ∧ -1800000000 ≤ n ∧ n ≤ 1800000000) (.type "tuple") (LDay k n) := by
  refine ConT.mk ?_
  walk_at "my begin"
  k_steps
  all_goals walk_at "my endT"
  all_goals exact ld_end (by assumption) (by omega) (by omega)
local macro_rules | `(tactic| walk_at "call ref") => `(tactic| (k_here; (with_reducible show wpAny _ _ (call (Value.ref 236) _) _ _ _); k_dflt (refine' @Held.out _ (ConP.useh (k_ord _ _) ?k1 ?k2 ?k3 ?k4 ?k5 ?kK ?kd ?ku ?kp ?_); (case k1 => k_asm); (case k2 => k_asm); (case k3 => k_asm); (case k4 => k_asm); (case k5 => k_asm); (case kK => first | exact rfl | assumption); (case kd => ktr_room); (case ku => ktr_units); (case kp => first | trivial | assumption | omega)); intro y9 d9 t91 t93 D9 h9 tk9 p9 F9 N9 l9; (try dsimp only at p9); (try dsimp only); (try simp only [AllLt, and_true] at l9)))
theorem c_date5 (n : Int) (t u : Tok) : ConP w mean mg mb 278 8 [.int 5 u, .int n t] (-1800000000 ≤ n ∧ n ≤ 1800000000) (.type "tuple") (fun y d => LDay 5 n y 1 d) := by
  refine ConP.mk ?_
  walk_at "my begin"
  k_steps
  all_goals walk_at "my endP"
  all_goals exact ld_end (by assumption) (by omega) (by omega)
local macro_rules | `(tactic| walk_at "call ref") => `(tactic| (k_here; (with_reducible show wpAny _ _ (call (Value.ref 179) _) _ _ _); k_dflt (refine' @Held.out _ (ConT.useh (k_iso _ _) ?k1 ?k2 ?k3 ?k4 ?k5 ?kK ?kd ?ku ?kp ?_); (case k1 => k_asm); (case k2 => k_asm); (case k3 => k_asm); (case k4 => k_asm); (case k5 => k_asm); (case kK => first | exact rfl | assumption); (case kd => ktr_room); (case ku => ktr_units); (case kp => first | trivial | assumption | omega)); intro y9 m9 d9 t91 t92 t93 D9 h9 tk9 p9 F9 N9 l9; (try dsimp only at p9); (try dsimp only); (try simp only [AllLt, and_true] at l9)))
theorem c_date6 (n : Int) (t u : Tok) : ConT w mean mg mb 278 8 [.int 6 u, .int n t] (1721426 ≤ n ∧ n ≤ 5373484) (.type "datetime.IsoCalendarDate") (LDay 6 n) := by
  refine ConT.mk ?_
  walk_at "my begin"
  k_steps
  all_goals walk_at "my endT"
  all_goals exact ld_end (by assumption) (by omega) (by omega)
end
end
section
open PySem PySem.W PySem.Calls PyProof.Rows PySem.Flt
theorem rs_LO : True := by
  w_top off
  trivial
/-- a def that is given one object and hands back a plain worth -/
structure ConO {α : Type} (w : World) (mean : ExcName → Option Value) (mg mb : Str → Option Value) (f : Addr) (k : Nat) (vs : List Value) (ob : Addr × Obj) (pre : Prop) (mk : α → Tok → Value) (P : α → Prop) : Prop where mk ::
  out : ∀ (dp un : Nat) (gd : Option (List Code)) (cn : Str) (cs : Scope) (a : Addr) (ccd : Value) (cl : List (Str × Addr)) (outer : List Env) (A₀ : Around) (base h₀ : Heap) (L : Addr) (m : Str → Option Value) (news : List (Addr × Obj)) (s : Shared) (Q E : Value → Shared → Prop),
    Below A₀ base outer h₀ → Fr h₀ L s.heap m → (hd.heap_39 w.params).In h₀ → News h₀ L s.heap (ob :: news) → Top hd.view_39 lo mean mg mb h₀ → cs.kind = .function →
    dp + k < recursionLimit → un + 8 * k < cLine → pre →
    (∀ (x : α) (t : Tok) (h' : Heap) (tk' : Nat), P x → Fr h₀ L h' m → News h₀ L h' news → Q (mk x t) { s with heap := h', toks := tk' }) →
    wpAny (model Challenge.rw_ad5030_01.row.prog w) (ktrTop dp un gd cn cs L a ccd cl outer) (call (.ref f) vs) Q E s
theorem ConO.use {α : Type} {w : World} {mean : ExcName → Option Value} {mg mb : Str → Option Value} {f : Addr} {k : Nat} {vs : List Value} {ob : Addr × Obj} {pre : Prop} {mk : α → Tok → Value} {P : α → Prop}
    (C : ConO w mean mg mb f k vs ob pre mk P)
    {dp un : Nat} {gd : Option (List Code)} {cn : Str} {cs : Scope} {a : Addr} {ccd : Value} {cl : List (Str × Addr)} {outer : List Env} {A₀ : Around} {base h₀ : Heap} {L : Addr} {m : Str → Option Value} {news : List (Addr × Obj)} {s : Shared} {Q E : Value → Shared → Prop}
    (B : Below A₀ base outer h₀) (F : Fr h₀ L s.heap m) (X : (hd.heap_39 w.params).In h₀) (N : News h₀ L s.heap news) (ho : ob ∈ news) (T : Top hd.view_39 lo mean mg mb h₀) (hk : cs.kind = .function)
    (hd : dp + k < recursionLimit) (hu : un + 8 * k < cLine) (hp : pre)
    (ret : ∀ (x : α) (t : Tok) (h' : Heap) (tk' : Nat), P x → Fr h₀ L h' m → News h₀ L h' news → Q (mk x t) { s with heap := h', toks := tk' }) :
    wpAny (model Challenge.rw_ad5030_01.row.prog w) (ktrTop dp un gd cn cs L a ccd cl outer) (call (.ref f) vs) Q E s :=
  C.out dp un gd cn cs a ccd cl outer A₀ base h₀ L m news s Q E B F X (fun p hp => (List.mem_cons.mp hp).elim (fun e => e ▸ N _ ho) fun hp => N p hp) T hk hd hu hp ret
/-- two objects -/
structure ConQ {α : Type} (w : World) (mean : ExcName → Option Value) (mg mb : Str → Option Value) (f : Addr) (k : Nat) (vs : List Value) (ob ob2 : Addr × Obj) (pre : Prop) (mk : α → Tok → Value) (P : α → Prop) : Prop where mk ::
  out : ∀ (dp un : Nat) (gd : Option (List Code)) (cn : Str) (cs : Scope) (a : Addr) (ccd : Value) (cl : List (Str × Addr)) (outer : List Env) (A₀ : Around) (base h₀ : Heap) (L : Addr) (m : Str → Option Value) (news : List (Addr × Obj)) (s : Shared) (Q E : Value → Shared → Prop),
    Below A₀ base outer h₀ → Fr h₀ L s.heap m → (hd.heap_39 w.params).In h₀ → News h₀ L s.heap (ob :: ob2 :: news) → Top hd.view_39 lo mean mg mb h₀ → cs.kind = .function →
    dp + k < recursionLimit → un + 8 * k < cLine → pre →
    (∀ (x : α) (t : Tok) (h' : Heap) (tk' : Nat), P x → Fr h₀ L h' m → News h₀ L h' news → Q (mk x t) { s with heap := h', toks := tk' }) →
    wpAny (model Challenge.rw_ad5030_01.row.prog w) (ktrTop dp un gd cn cs L a ccd cl outer) (call (.ref f) vs) Q E s
theorem ConQ.use {α : Type} {w : World} {mean : ExcName → Option Value} {mg mb : Str → Option Value} {f : Addr} {k : Nat} {vs : List Value} {ob ob2 : Addr × Obj} {pre : Prop} {mk : α → Tok → Value} {P : α → Prop}
    (C : ConQ w mean mg mb f k vs ob ob2 pre mk P)
    {dp un : Nat} {gd : Option (List Code)} {cn : Str} {cs : Scope} {a : Addr} {ccd : Value} {cl : List (Str × Addr)} {outer : List Env} {A₀ : Around} {base h₀ : Heap} {L : Addr} {m : Str → Option Value} {news : List (Addr × Obj)} {s : Shared} {Q E : Value → Shared → Prop}
    (B : Below A₀ base outer h₀) (F : Fr h₀ L s.heap m) (X : (hd.heap_39 w.params).In h₀) (N : News h₀ L s.heap news) (ho : ob ∈ news) (ho2 : ob2 ∈ news) (T : Top hd.view_39 lo mean mg mb h₀) (hk : cs.kind = .function)
    (hd : dp + k < recursionLimit) (hu : un + 8 * k < cLine) (hp : pre)
    (ret : ∀ (x : α) (t : Tok) (h' : Heap) (tk' : Nat), P x → Fr h₀ L h' m → News h₀ L h' news → Q (mk x t) { s with heap := h', toks := tk' }) :
    wpAny (model Challenge.rw_ad5030_01.row.prog w) (ktrTop dp un gd cn cs L a ccd cl outer) (call (.ref f) vs) Q E s :=
  C.out dp un gd cn cs a ccd cl outer A₀ base h₀ L m news s Q E B F X (fun p hp => (List.mem_cons.mp hp).elim (fun e => e ▸ N _ ho) fun hp => (List.mem_cons.mp hp).elim (fun e => e ▸ N _ ho2) fun hp => N p hp) T hk hd hu hp ret
/-- a list of ints is handed back -/
structure ConL (w : World) (mean : ExcName → Option Value) (mg mb : Str → Option Value) (f : Addr) (k : Nat) (vs : List Value) (pre : Prop) (xs : List Int) : Prop where mk ::
  out : ∀ (dp un : Nat) (gd : Option (List Code)) (cn : Str) (cs : Scope) (a : Addr) (ccd : Value) (cl : List (Str × Addr)) (outer : List Env) (A₀ : Around) (base h₀ : Heap) (L : Addr) (m : Str → Option Value) (news : List (Addr × Obj)) (s : Shared) (Q E : Value → Shared → Prop),
    Below A₀ base outer h₀ → Fr h₀ L s.heap m → (hd.heap_39 w.params).In h₀ → News h₀ L s.heap news → Top hd.view_39 lo mean mg mb h₀ → cs.kind = .function →
    dp + k < recursionLimit → un + 8 * k < cLine → pre →
    (∀ (ws : List Value) (D : Addr) (n : Nat) (h' : Heap) (tk' : Nat), IntsAre ws xs → Fr h₀ L h' m → News h₀ L h' ((D, ({ cls := .type "list", data := .seq ws.toArray n } : Obj)) :: news) → AllLt D news → Q (.ref D) { s with heap := h', toks := tk' }) →
    wpAny (model Challenge.rw_ad5030_01.row.prog w) (ktrTop dp un gd cn cs L a ccd cl outer) (call (.ref f) vs) Q E s
theorem ConL.use {w : World} {mean : ExcName → Option Value} {mg mb : Str → Option Value} {f : Addr} {k : Nat} {vs : List Value} {pre : Prop} {xs : List Int}
    (C : ConL w mean mg mb f k vs pre xs)
    {dp un : Nat} {gd : Option (List Code)} {cn : Str} {cs : Scope} {a : Addr} {ccd : Value} {cl : List (Str × Addr)} {outer : List Env} {A₀ : Around} {base h₀ : Heap} {L : Addr} {m : Str → Option Value} {news : List (Addr × Obj)} {s : Shared} {Q E : Value → Shared → Prop}
    (B : Below A₀ base outer h₀) (F : Fr h₀ L s.heap m) (X : (hd.heap_39 w.params).In h₀) (N : News h₀ L s.heap news) (T : Top hd.view_39 lo mean mg mb h₀) (hk : cs.kind = .function)
    (hd : dp + k < recursionLimit) (hu : un + 8 * k < cLine) (hp : pre)
    (ret : ∀ (ws : List Value) (D : Addr) (n : Nat) (h' : Heap) (tk' : Nat), IntsAre ws xs → Fr h₀ L h' m → News h₀ L h' ((D, ({ cls := .type "list", data := .seq ws.toArray n } : Obj)) :: news) → AllLt D news → Q (.ref D) { s with heap := h', toks := tk' }) :
    wpAny (model Challenge.rw_ad5030_01.row.prog w) (ktrTop dp un gd cn cs L a ccd cl outer) (call (.ref f) vs) Q E s :=
  C.out dp un gd cn cs a ccd cl outer A₀ base h₀ L m news s Q E B F X N T hk hd hu hp ret
theorem con_retL {h₀ h' : Heap} {L : Addr} {m : Str → Option Value} {news news' : List (Addr × Obj)} {s : Shared} {Q : Value → Shared → Prop} {tk' : Nat} {xs : List Int} {D : Addr}
    (hret : ∀ (ws : List Value) (D : Addr) (n : Nat) (h' : Heap) (tk' : Nat), IntsAre ws xs → Fr h₀ L h' m → News h₀ L h' ((D, ({ cls := .type "list", data := .seq ws.toArray n } : Obj)) :: news) → AllLt D news → Q (.ref D) { s with heap := h', toks := tk' })
    {ws : List Value} {n : Nat} (F : Fr h₀ L h' m) (N : News h₀ L h' news') (hm : (D, ({ cls := .type "list", data := .seq ws.toArray n } : Obj)) ∈ news') (hs : ∀ p ∈ news, p ∈ news') (hl : AllLt D news) (p : IntsAre ws xs) : Q (.ref D) { s with heap := h', toks := tk' } :=
  hret ws D n h' tk' p F (fun q hq => (List.mem_cons.mp hq).elim (fun e => e ▸ N _ hm) fun hq => N q (hs q hq)) hl
/-- the first date from the row on, and its day -/
structure ConX (w : World) (mean : ExcName → Option Value) (mg mb : Str → Option Value) (f : Addr) (k : Nat) (vs : List Value) (pre : Prop) (P : Int → Int → Int → Int → Prop) : Prop where mk ::
  out : ∀ (dp un : Nat) (gd : Option (List Code)) (cn : Str) (cs : Scope) (a : Addr) (ccd : Value) (cl : List (Str × Addr)) (outer : List Env) (A₀ : Around) (base h₀ : Heap) (L : Addr) (m : Str → Option Value) (news : List (Addr × Obj)) (s : Shared) (Q E : Value → Shared → Prop),
    Below A₀ base outer h₀ → Fr h₀ L s.heap m → (hd.heap_39 w.params).In h₀ → News h₀ L s.heap news → Top hd.view_39 lo mean mg mb h₀ → cs.kind = .function →
    dp + k < recursionLimit → un + 8 * k < cLine → pre →
    (∀ (y mo d n : Int) (t1 t2 t3 t4 : Tok) (D D2 : Addr) (h' : Heap) (tk' : Nat), P y mo d n → Fr h₀ L h' m → News h₀ L h' ((D2, ({ cls := .type "tuple", data := .seq #[.ref D, .int n t4] } : Obj)) :: (D, ({ cls := .type "tuple", data := .seq #[.int y t1, .int mo t2, .int d t3] } : Obj)) :: news) → AllLt D news → AllLt D2 news → D < D2 → Q (.ref D2) { s with heap := h', toks := tk' }) →
    wpAny (model Challenge.rw_ad5030_01.row.prog w) (ktrTop dp un gd cn cs L a ccd cl outer) (call (.ref f) vs) Q E s
theorem ConX.use {w : World} {mean : ExcName → Option Value} {mg mb : Str → Option Value} {f : Addr} {k : Nat} {vs : List Value} {pre : Prop} {P : Int → Int → Int → Int → Prop}
    (C : ConX w mean mg mb f k vs pre P)
    {dp un : Nat} {gd : Option (List Code)} {cn : Str} {cs : Scope} {a : Addr} {ccd : Value} {cl : List (Str × Addr)} {outer : List Env} {A₀ : Around} {base h₀ : Heap} {L : Addr} {m : Str → Option Value} {news : List (Addr × Obj)} {s : Shared} {Q E : Value → Shared → Prop}
    (B : Below A₀ base outer h₀) (F : Fr h₀ L s.heap m) (X : (hd.heap_39 w.params).In h₀) (N : News h₀ L s.heap news) (T : Top hd.view_39 lo mean mg mb h₀) (hk : cs.kind = .function)
    (hd : dp + k < recursionLimit) (hu : un + 8 * k < cLine) (hp : pre)
    (ret : ∀ (y mo d n : Int) (t1 t2 t3 t4 : Tok) (D D2 : Addr) (h' : Heap) (tk' : Nat), P y mo d n → Fr h₀ L h' m → News h₀ L h' ((D2, ({ cls := .type "tuple", data := .seq #[.ref D, .int n t4] } : Obj)) :: (D, ({ cls := .type "tuple", data := .seq #[.int y t1, .int mo t2, .int d t3] } : Obj)) :: news) → AllLt D news → AllLt D2 news → D < D2 → Q (.ref D2) { s with heap := h', toks := tk' }) :
    wpAny (model Challenge.rw_ad5030_01.row.prog w) (ktrTop dp un gd cn cs L a ccd cl outer) (call (.ref f) vs) Q E s :=
  C.out dp un gd cn cs a ccd cl outer A₀ base h₀ L m news s Q E B F X N T hk hd hu hp ret
theorem con_retX {h₀ h' : Heap} {L : Addr} {m : Str → Option Value} {news news' : List (Addr × Obj)} {s : Shared} {Q : Value → Shared → Prop} {tk' : Nat} {P : Int → Int → Int → Int → Prop} {D D2 : Addr}
    (hret : ∀ (y mo d n : Int) (t1 t2 t3 t4 : Tok) (D D2 : Addr) (h' : Heap) (tk' : Nat), P y mo d n → Fr h₀ L h' m → News h₀ L h' ((D2, ({ cls := .type "tuple", data := .seq #[.ref D, .int n t4] } : Obj)) :: (D, ({ cls := .type "tuple", data := .seq #[.int y t1, .int mo t2, .int d t3] } : Obj)) :: news) → AllLt D news → AllLt D2 news → D < D2 → Q (.ref D2) { s with heap := h', toks := tk' })
    {y mo d n : Int} {t1 t2 t3 t4 : Tok} (F : Fr h₀ L h' m) (N : News h₀ L h' news') (hm : (D2, ({ cls := .type "tuple", data := .seq #[.ref D, .int n t4] } : Obj)) ∈ news') (hm2 : (D, ({ cls := .type "tuple", data := .seq #[.int y t1, .int mo t2, .int d t3] } : Obj)) ∈ news') (hs : ∀ p ∈ news, p ∈ news') (hl : AllLt D news) (hl2 : D < D2) (p : P y mo d n) : Q (.ref D2) { s with heap := h', toks := tk' } :=
  hret y mo d n t1 t2 t3 t4 D D2 h' tk' p F (fun q hq => (List.mem_cons.mp hq).elim (fun e => e ▸ N _ hm) fun hq => (List.mem_cons.mp hq).elim (fun e => e ▸ N _ hm2) fun hq => N q (hs q hq)) hl (tbn_up hl2 hl) hl2
section
set_option linter.all false
def ConL.useh := fun {x0} {x1} {x2} {x3} {x4} {x5} {x6} {x7} {x8} (x9) {x10} {x11} {x12} {x13} {x14} {x15} {x16} {x17} {x18} {x19} {x20} {x21} {x22} {x23} {x24} {x25} {x26} {x27} (x28) (x29) (x30) (x31) (x32) (x33) (x34) (x35) (x36) (x37) => Held.mk (@Mine.ConL.use x0 x1 x2 x3 x4 x5 x6 x7 x8 x9 x10 x11 x12 x13 x14 x15 x16 x17 x18 x19 x20 x21 x22 x23 x24 x25 x26 x27 x28 x29 x30 x31 x32 x33 x34 x35 x36 x37)
def ConO.useh := fun {x0} {x1} {x2} {x3} {x4} {x5} {x6} {x7} {x8} {x9} {x10} {x11} (x12) {x13} {x14} {x15} {x16} {x17} {x18} {x19} {x20} {x21} {x22} {x23} {x24} {x25} {x26} {x27} {x28} {x29} {x30} (x31) (x32) (x33) (x34) (x35) (x36) (x37) (x38) (x39) (x40) (x41) => Held.mk (@Mine.ConO.use x0 x1 x2 x3 x4 x5 x6 x7 x8 x9 x10 x11 x12 x13 x14 x15 x16 x17 x18 x19 x20 x21 x22 x23 x24 x25 x26 x27 x28 x29 x30 x31 x32 x33 x34 x35 x36 x37 x38 x39 x40 x41)
def ConQ.useh := fun {x0} {x1} {x2} {x3} {x4} {x5} {x6} {x7} {x8} {x9} {x10} {x11} {x12} (x13) {x14} {x15} {x16} {x17} {x18} {x19} {x20} {x21} {x22} {x23} {x24} {x25} {x26} {x27} {x28} {x29} {x30} {x31} (x32) (x33) (x34) (x35) (x36) (x37) (x38) (x39) (x40) (x41) (x42) (x43) => Held.mk (@Mine.ConQ.use x0 x1 x2 x3 x4 x5 x6 x7 x8 x9 x10 x11 x12 x13 x14 x15 x16 x17 x18 x19 x20 x21 x22 x23 x24 x25 x26 x27 x28 x29 x30 x31 x32 x33 x34 x35 x36 x37 x38 x39 x40 x41 x42 x43)
def ConX.useh := fun {x0} {x1} {x2} {x3} {x4} {x5} {x6} {x7} {x8} (x9) {x10} {x11} {x12} {x13} {x14} {x15} {x16} {x17} {x18} {x19} {x20} {x21} {x22} {x23} {x24} {x25} {x26} {x27} (x28) (x29) (x30) (x31) (x32) (x33) (x34) (x35) (x36) (x37) => Held.mk (@Mine.ConX.use x0 x1 x2 x3 x4 x5 x6 x7 x8 x9 x10 x11 x12 x13 x14 x15 x16 x17 x18 x19 x20 x21 x22 x23 x24 x25 x26 x27 x28 x29 x30 x31 x32 x33 x34 x35 x36 x37)
end
end
section
open PySem PySem.W PySem.Calls PyProof.Rows PySem.Flt
theorem rs_LE : True := by
  w_top off
  trivial
section
variable {w : World} {mean : ExcName → Option Value} {mg mb : Str → Option Value}
theorem kd_greg (y m d : Int) (t u v : Tok) : Con w mean mg mb 116 3 [.int y t, .int m u, .int d v] ((-5000000 ≤ y ∧ y ≤ 5000000) ∧ ∃ N, LDay 0 N y m d) mkF (fun r => ∀ N, LDay 0 N y m d → r = 4 * N - 2) := by
  refine Con.mk ?_
  intro dp un gd cn cs a ccd cl outer A₀ base h₀ L mm news s Q E B F X N T hk hd hu hp hret
  obtain ⟨hb, N₀, h⟩ := hp
  refine @Held.out _ (Con.useh (c_to_jd y m d t u v) B F X N T hk hd hu ?_ fun x t h' tk' p => hret x t h' tk' fun N₁ g => ?_)
  · have q := g_back h; exact ⟨q.1.1, q.1.2.1, q.1.2.2, by omega, by omega⟩
  · have q := (g_back g).2; obtain ⟨z, rfl, -, p⟩ := p; omega
theorem kd_jul (y m d : Int) (t u v : Tok) : Con w mean mg mb 222 4 [.int y t, .int m u, .int d v] ((-5000000 ≤ y ∧ y ≤ 5000000) ∧ ∃ N, LDay 1 N y m d) mkF (fun r => ∀ N, LDay 1 N y m d → r = 4 * N - 2) := by
  refine Con.mk ?_
  intro dp un gd cn cs a ccd cl outer A₀ base h₀ L mm news s Q E B F X N T hk hd hu hp hret
  obtain ⟨hb, N₀, h⟩ := hp
  refine @Held.out _ (Con.useh (c_to_jul y m d t u v) B F X N T hk hd hu ?_ fun x t h' tk' p => hret x t h' tk' fun N₁ g => ?_)
  · have q := j_back h; exact ⟨q.1.1, q.1.2.1, q.1.2.2, by omega, by omega⟩
  · have q := (j_back g).2; obtain ⟨e, f, -, -, p, r⟩ := p; unfold jnum at q; omega
theorem kd_isl (y m d : Int) (t u v : Tok) : Con w mean mg mb 158 2 [.int y t, .int m u, .int d v] ((-5000000 ≤ y ∧ y ≤ 5000000) ∧ ∃ N, LDay 2 N y m d) mkF (fun r => ∀ N, LDay 2 N y m d → r = 4 * N - 2) := by
  refine Con.mk ?_
  intro dp un gd cn cs a ccd cl outer A₀ base h₀ L mm news s Q E B F X N T hk hd hu hp hret
  obtain ⟨hb, N₀, h⟩ := hp
  refine @Held.out _ (Con.useh (c_to_isl y m d t u v) B F X N T hk hd hu ?_ fun x t h' tk' p => hret x t h' tk' fun N₁ g => ?_)
  · have q := i_back h; omega
  · have q := (i_back g).2; obtain ⟨e, f, rfl, rfl, p⟩ := p; omega
theorem kd_copt (y m d : Int) (t u v : Tok) : Con w mean mg mb 130 2 [.int y t, .int m u, .int d v] ((-5000000 ≤ y ∧ y ≤ 5000000) ∧ ∃ N, LDay 3 N y m d) mkF (fun r => ∀ N, LDay 3 N y m d → r = 4 * N - 2) := by
  refine Con.mk ?_
  intro dp un gd cn cs a ccd cl outer A₀ base h₀ L mm news s Q E B F X N T hk hd hu hp hret
  obtain ⟨hb, N₀, h⟩ := hp
  refine @Held.out _ (Con.useh (c_to_copt y m d t u v) B F X N T hk hd hu ?_ fun x t h' tk' p => hret x t h' tk' fun N₁ g => ?_)
  · have q := c_back h; omega
  · have q := (c_back g).2; omega
theorem kd_ind (y m d : Int) (t u v : Tok) : Con w mean mg mb 144 4 [.int y t, .int m u, .int d v] ((-5000000 ≤ y ∧ y ≤ 5000000) ∧ ∃ N, LDay 4 N y m d) mkF (fun r => ∀ N, LDay 4 N y m d → r = 4 * N - 2) := by
  refine Con.mk ?_
  intro dp un gd cn cs a ccd cl outer A₀ base h₀ L mm news s Q E B F X N T hk hd hu hp hret
  obtain ⟨hb, N₀, h⟩ := hp
  refine @Held.out _ (Con.useh (c_to_ind y m d t u v) B F X N T hk hd hu ?_ fun x t h' tk' p => hret x t h' tk' fun N₁ g => ?_)
  · have q := n_back h; omega
  · have q := (n_back g).2; omega
theorem kd_ord (y d : Int) (t u : Tok) : Con w mean mg mb 229 4 [.int y t, .int d u] ((-5000000 ≤ y ∧ y ≤ 5000000) ∧ ∃ N, LDay 5 N y 1 d) mkF (fun r => ∀ N, LDay 5 N y 1 d → r = 4 * N - 2) := by
  refine Con.mk ?_
  intro dp un gd cn cs a ccd cl outer A₀ base h₀ L mm news s Q E B F X N T hk hd hu hp hret
  obtain ⟨hb, N₀, h⟩ := hp
  refine @Held.out _ (Con.useh (c_to_ord y d t u) B F X N T hk hd hu ?_ fun x t h' tk' p => hret x t h' tk' fun N₁ g => ?_)
  · have q := o_back h; omega
  · have q := o_back g; omega
theorem kd_iso (y m d : Int) (t u v : Tok) : Con w mean mg mb 172 6 [.int y t, .int m u, .int d v] ((0 ≤ y ∧ y ≤ 20000) ∧ ∃ N, LDay 6 N y m d) mkF (fun r => ∀ N, LDay 6 N y m d → r = 4 * N - 2) := by
  refine Con.mk ?_
  intro dp un gd cn cs a ccd cl outer A₀ base h₀ L mm news s Q E B F X N T hk hd hu hp hret
  obtain ⟨hb, N₀, h⟩ := hp
  refine @Held.out _ (Con.useh (c_to_iso y m d t u v) B F X N T hk hd hu ?_ fun x t h' tk' p => hret x t h' tk' fun N₁ g => ?_)
  · have q := w_row.mp h; have := wbeg_step y; omega
  · have q := w_row.mp g; have := wbeg_near y; unfold wbeg at q; omega
theorem kd_pre {k k' N y m d a b : Int} (h : LDay k N y m d) (e : k = k') (hb : a ≤ y ∧ y ≤ b) : (a ≤ y ∧ y ≤ b) ∧ ∃ N, LDay k' N y m d := ⟨hb, N, e ▸ h⟩
theorem kd_end {k k' N y m d r : Int} (p : ∀ N, LDay k' N y m d → r = 4 * N - 2) (h : LDay k N y m d) (e : k = k') : r = 4 * N - 2 := p N (e ▸ h)
local macro_rules | `(tactic| walk_at "call ref") => `(tactic| (k_here; (with_reducible show wpAny _ _ (call (Value.ref 116) _) _ _ _); k_dflt (refine' @Held.out _ (Con.useh (kd_greg _ _ _ _ _ _) ?k1 ?k2 ?k3 ?k4 ?k5 ?kK ?kd ?ku ?kp ?_); (case k1 => k_asm); (case k2 => k_asm); (case k3 => k_asm); (case k4 => k_asm); (case k5 => k_asm); (case kK => first | exact rfl | assumption); (case kd => ktr_room); (case ku => ktr_units); (case kp => first | trivial | assumption | omega | exact kd_pre (by assumption) (by omega) (by omega))); intro x9 t9 h9 tk9 p9 F9 N9; (try dsimp only at p9); (try dsimp only)))
local macro_rules | `(tactic| walk_at "call ref") => `(tactic| (k_here; (with_reducible show wpAny _ _ (call (Value.ref 222) _) _ _ _); k_dflt (refine' @Held.out _ (Con.useh (kd_jul _ _ _ _ _ _) ?k1 ?k2 ?k3 ?k4 ?k5 ?kK ?kd ?ku ?kp ?_); (case k1 => k_asm); (case k2 => k_asm); (case k3 => k_asm); (case k4 => k_asm); (case k5 => k_asm); (case kK => first | exact rfl | assumption); (case kd => ktr_room); (case ku => ktr_units); (case kp => first | trivial | assumption | omega | exact kd_pre (by assumption) (by omega) (by omega))); intro x9 t9 h9 tk9 p9 F9 N9; (try dsimp only at p9); (try dsimp only)))
local macro_rules | `(tactic| walk_at "call ref") => `(tactic| (k_here; (with_reducible show wpAny _ _ (call (Value.ref 158) _) _ _ _); k_dflt (refine' @Held.out _ (Con.useh (kd_isl _ _ _ _ _ _) ?k1 ?k2 ?k3 ?k4 ?k5 ?kK ?kd ?ku ?kp ?_); (case k1 => k_asm); (case k2 => k_asm); (case k3 => k_asm); (case k4 => k_asm); (case k5 => k_asm); (case kK => first | exact rfl | assumption); (case kd => ktr_room); (case ku => ktr_units); (case kp => first | trivial | assumption | omega | exact kd_pre (by assumption) (by omega) (by omega))); intro x9 t9 h9 tk9 p9 F9 N9; (try dsimp only at p9); (try dsimp only)))
local macro_rules | `(tactic| walk_at "call ref") => `(tactic| (k_here; (with_reducible show wpAny _ _ (call (Value.ref 130) _) _ _ _); k_dflt (refine' @Held.out _ (Con.useh (kd_copt _ _ _ _ _ _) ?k1 ?k2 ?k3 ?k4 ?k5 ?kK ?kd ?ku ?kp ?_); (case k1 => k_asm); (case k2 => k_asm); (case k3 => k_asm); (case k4 => k_asm); (case k5 => k_asm); (case kK => first | exact rfl | assumption); (case kd => ktr_room); (case ku => ktr_units); (case kp => first | trivial | assumption | omega | exact kd_pre (by assumption) (by omega) (by omega))); intro x9 t9 h9 tk9 p9 F9 N9; (try dsimp only at p9); (try dsimp only)))
local macro_rules | `(tactic| walk_at "call ref") => `(tactic| (k_here; (with_reducible show wpAny _ _ (call (Value.ref 144) _) _ _ _); k_dflt (refine' @Held.out _ (Con.useh (kd_ind _ _ _ _ _ _) ?k1 ?k2 ?k3 ?k4 ?k5 ?kK ?kd ?ku ?kp ?_); (case k1 => k_asm); (case k2 => k_asm); (case k3 => k_asm); (case k4 => k_asm); (case k5 => k_asm); (case kK => first | exact rfl | assumption); (case kd => ktr_room); (case ku => ktr_units); (case kp => first | trivial | assumption | omega | exact kd_pre (by assumption) (by omega) (by omega))); intro x9 t9 h9 tk9 p9 F9 N9; (try dsimp only at p9); (try dsimp only)))
theorem c_day3 (k N y m d : Int) (D : Addr) (u t1 t2 t3 : Tok) : ConO w mean mg mb 285 8 [.int k u, .ref D] (D, ({ cls := .type "tuple", data := .seq #[.int y t1, .int m t2, .int d t3] } : Obj)) ((0 ≤ k ∧ k ≤ 4 ∧ -5000000 ≤ y ∧ y ≤ 5000000) ∧ LDay k N y m d) mkF (fun r => r = 4 * N - 2) := by
  refine ConO.mk ?_
  walk_at "my begin"
  have hp := (by assumption : (0 ≤ k ∧ k ≤ 4 ∧ -5000000 ≤ y ∧ y ≤ 5000000) ∧ LDay k N y m d)
  have hp1 := hp.1
  have hp2 := hp.2
  k_steps
  all_goals walk_at "my endF"
  all_goals exact kd_end (by assumption) (by assumption) (by omega)
local macro_rules | `(tactic| walk_at "call ref") => `(tactic| (k_here; (with_reducible show wpAny _ _ (call (Value.ref 229) _) _ _ _); k_dflt (refine' @Held.out _ (Con.useh (kd_ord _ _ _ _) ?k1 ?k2 ?k3 ?k4 ?k5 ?kK ?kd ?ku ?kp ?_); (case k1 => k_asm); (case k2 => k_asm); (case k3 => k_asm); (case k4 => k_asm); (case k5 => k_asm); (case kK => first | exact rfl | assumption); (case kd => ktr_room); (case ku => ktr_units); (case kp => first | trivial | assumption | omega | exact kd_pre (by assumption) (by omega) (by omega))); intro x9 t9 h9 tk9 p9 F9 N9; (try dsimp only at p9); (try dsimp only)))
theorem c_day5 (N y d : Int) (D : Addr) (u t1 t3 : Tok) : ConO w mean mg mb 285 8 [.int 5 u, .ref D] (D, ({ cls := .type "tuple", data := .seq #[.int y t1, .int d t3] } : Obj)) ((-5000000 ≤ y ∧ y ≤ 5000000) ∧ LDay 5 N y 1 d) mkF (fun r => r = 4 * N - 2) := by
  refine ConO.mk ?_
  walk_at "my begin"
  have hp := (by assumption : (-5000000 ≤ y ∧ y ≤ 5000000) ∧ LDay 5 N y 1 d)
  have hp1 := hp.1
  have hp2 := hp.2
  k_steps
  all_goals walk_at "my endF"
  all_goals exact kd_end (by assumption) (by assumption) (by omega)
local macro_rules | `(tactic| walk_at "call ref") => `(tactic| (k_here; (with_reducible show wpAny _ _ (call (Value.ref 172) _) _ _ _); k_dflt (refine' @Held.out _ (Con.useh (kd_iso _ _ _ _ _ _) ?k1 ?k2 ?k3 ?k4 ?k5 ?kK ?kd ?ku ?kp ?_); (case k1 => k_asm); (case k2 => k_asm); (case k3 => k_asm); (case k4 => k_asm); (case k5 => k_asm); (case kK => first | exact rfl | assumption); (case kd => ktr_room); (case ku => ktr_units); (case kp => first | trivial | assumption | omega | exact kd_pre (by assumption) (by omega) (by omega))); intro x9 t9 h9 tk9 p9 F9 N9; (try dsimp only at p9); (try dsimp only)))
theorem c_day6 (N y m d : Int) (D : Addr) (u t1 t2 t3 : Tok) : ConO w mean mg mb 285 8 [.int 6 u, .ref D] (D, ({ cls := .type "tuple", data := .seq #[.int y t1, .int m t2, .int d t3] } : Obj)) ((0 ≤ y ∧ y ≤ 20000) ∧ LDay 6 N y m d) mkF (fun r => r = 4 * N - 2) := by
  refine ConO.mk ?_
  walk_at "my begin"
  have hp := (by assumption : (0 ≤ y ∧ y ≤ 20000) ∧ LDay 6 N y m d)
  have hp1 := hp.1
  have hp2 := hp.2
  k_steps
  all_goals walk_at "my endF"
  all_goals exact kd_end (by assumption) (by assumption) (by omega)
end
end
section
open PySem PySem.W PySem.Calls PyProof.Rows PySem.Flt
theorem rs_LF : True := by
  w_top off
  trivial
section
variable {w : World} {mean : ExcName → Option Value} {mg mb : Str → Option Value}
theorem c_begin (k y : Int) (u t : Tok) : Con w mean mg mb 290 2 [.int k u, .int y t] ((0 ≤ k ∧ k ≤ 6) ∧ -2000000 ≤ y ∧ y ≤ 2000000) mkI (fun x => x = lbeg k y) := by
  refine Con.mk ?_
  intro dp un gd cn cs a ccd cl outer A₀ base h₀ L m news s Q E B F X N T hk hd hu hp hret
  rcases seven hp.1 with h | h | h | h | h | h | h <;> subst h
  · exact @Held.out _ (Con.useh (c_begin0 y t u) B F X N T hk hd hu hp.2 hret)
  · exact @Held.out _ (Con.useh (c_begin1 y t u) B F X N T hk hd hu hp.2 hret)
  · exact @Held.out _ (Con.useh (c_begin2 y t u) B F X N T hk hd hu hp.2 hret)
  · exact @Held.out _ (Con.useh (c_begin3 y t u) B F X N T hk hd hu hp.2 hret)
  · exact @Held.out _ (Con.useh (c_begin4 y t u) B F X N T hk hd hu hp.2 hret)
  · exact @Held.out _ (Con.useh (c_begin5 y t u) B F X N T hk hd hu hp.2 hret)
  · exact @Held.out _ (Con.useh (c_begin6 y t u) B F X N T hk hd hu hp.2 hret)
local macro_rules | `(tactic| walk_at "call ref") => `(tactic| (k_here; (with_reducible show wpAny _ _ (call (Value.ref 290) _) _ _ _); k_dflt (refine' @Held.out _ (Con.useh (c_begin _ _ _ _) ?k1 ?k2 ?k3 ?k4 ?k5 ?kK ?kd ?ku ?kp ?_); (case k1 => k_asm); (case k2 => k_asm); (case k3 => k_asm); (case k4 => k_asm); (case k5 => k_asm); (case kK => first | exact rfl | assumption); (case kd => ktr_room); (case ku => ktr_units); (case kp => first | trivial | assumption | omega)); intro x9 t9 h9 tk9 p9 F9 N9; (try dsimp only at p9); (try dsimp only)))
theorem leng_2 {k D : Int} (h : k = 2) : leng k D = [30, 29, 30, 29, 30, 29, 30, 29, 30, 29, 30, D - 325] := by subst h; rfl
theorem leng_3 {k D : Int} (h : k = 3) : leng k D = [30, 30, 30, 30, 30, 30, 30, 30, 30, 30, 30, 30, D - 360] := by subst h; rfl
theorem leng_4 {k D : Int} (h : k = 4) : leng k D = [D - 335, 31, 31, 31, 31, 31, 30, 30, 30, 30, 30, 30] := by subst h; rfl
theorem leng_5 {k D : Int} (h : k = 5) : leng k D = [D] := by subst h; rfl
theorem leng_6 {k D : Int} (h : k = 6) : leng k D = (List.replicate (D / 7).toNat [7]).flatten := by subst h; rfl
theorem leng_o {k D : Int} (h : k ≠ 2 ∧ k ≠ 3 ∧ k ≠ 4 ∧ k ≠ 5 ∧ k ≠ 6) : leng k D = [31, D - 337, 31, 30, 31, 30, 31, 31, 30, 31, 30, 31] := by
  unfold leng
  rw [if_neg h.1, if_neg h.2.1, if_neg h.2.2.1, if_neg h.2.2.2.1, if_neg h.2.2.2.2]
theorem len_end {k y a b : Int} {ws : List Value} (ha : a = lbeg k (y + 1)) (hb : b = lbeg k y) (h : IntsAre ws (leng k (a - b))) : IntsAre ws (llen k y) := by
  subst ha hb
  exact h
local macro_rules | `(tactic| walk_at "my endL") => `(tactic| (refine' con_retL (by assumption) (by assumption) ?N ?M ?S ?L ?P; (case N => assumption); (case M => k_mem); (case S => walk_at "my sub"); (case L => first | with_reducible assumption | ((with_reducible rename (_ ∧ AllLt _ _) => hl9); exact hl9.2) | kcu_lt)))
theorem c_lengths (k y : Int) (u t : Tok) : ConL w mean mg mb 297 3 [.int k u, .int y t] ((0 ≤ k ∧ k ≤ 6) ∧ -1900000 ≤ y ∧ y ≤ 1900000) (llen k y) := by
  refine ConL.mk ?_
  walk_at "my begin"
  have hp := (by assumption : (0 ≤ k ∧ k ≤ 6) ∧ -1900000 ≤ y ∧ y ≤ 1900000)
  have st := lstep2 hp.1 y
  k_steps
  all_goals walk_at "my endL"
  all_goals refine len_end (by with_reducible assumption) (by with_reducible assumption) ?_
  all_goals first | rw [leng_2 (by omega)] | rw [leng_3 (by omega)] | rw [leng_4 (by omega)] | rw [leng_5 (by omega)] | rw [leng_6 (by omega)] | rw [leng_o (by omega)]
  all_goals first
    | ((rename (_ = _ / (7 : Int)) => h7); rw [← h7]; assumption)
    | (repeat (first | exact IntsAre.nil | refine IntsAre.cons _ _ ?_))
end
end
section
open PySem PySem.W PySem.Calls PyProof.Rows PySem.Flt
theorem rs_LG : True := by
  w_top off
  trivial
section
variable {w : World} {mean : ExcName → Option Value} {mg mb : Str → Option Value}
local macro_rules | `(tactic| walk_at "call ref") => `(tactic| (k_here; (with_reducible show wpAny _ _ (call (Value.ref 290) _) _ _ _); k_dflt (refine' @Held.out _ (Con.useh (c_begin _ _ _ _) ?k1 ?k2 ?k3 ?k4 ?k5 ?kK ?kd ?ku ?kp ?_); (case k1 => k_asm); (case k2 => k_asm); (case k3 => k_asm); (case k4 => k_asm); (case k5 => k_asm); (case kK => first | exact rfl | assumption); (case kd => ktr_room); (case ku => ktr_units); (case kp => first | trivial | assumption | omega)); intro x9 t9 h9 tk9 p9 F9 N9; (try dsimp only at p9); (try dsimp only)))
local macro_rules | `(tactic| walk_at "call ref") => `(tactic| (k_here; (with_reducible show wpAny _ _ (call (Value.ref 297) _) _ _ _); k_dflt (refine' @Held.out _ (ConL.useh (c_lengths _ _ _ _) ?k1 ?k2 ?k3 ?k4 ?k5 ?kK ?kd ?ku ?kp ?_); (case k1 => k_asm); (case k2 => k_asm); (case k3 => k_asm); (case k4 => k_asm); (case k5 => k_asm); (case kK => first | exact rfl | assumption); (case kd => ktr_room); (case ku => ktr_units); (case kp => first | trivial | assumption | omega)); intro ws9 D9 n9 h9 tk9 i9 F9 N9 l9; (have z9 := IntsAre.length i9); (try simp only [AllLt, and_true] at l9)))
local macro_rules | `(tactic| walk_at "call builtin:len") => `(tactic| (k_here; (with_reducible show wpAny _ _ (call (Value.builtin "len") [Value.ref _]) _ _ _); k_dflt (refine' @Held.out _ (q_lenh ?N ?m ?i ?z ?_); (case N => k_asm); (case m => k_mem); (case i => assumption); (case z => omega)); intro c' hc' t' tk'))
local macro_rules | `(tactic| walk_at "call builtin:sum") => `(tactic| (k_here; k_dflt (refine' sum_ints ?F ?N ?h ?l ?i ?_; (case F => k_asm); (case N => k_asm); (case h => rfl); (case l => exact News.isList (by k_asm) (by k_mem)); (case i => assumption)); intro h' tk' t' F' N'))
local macro_rules | `(tactic| walk_at "subscriptTail") => `(tactic| (k_here; (with_reducible show wpAny _ _ (subscriptTail _ _ (Value.ref _) (Value.int _ _)) _ _ _); k_dflt (refine' @Held.out _ (item_anyKh ?l ?i ?a ?b ?c ?_ ?e); (case l => exact News.isList (by k_asm) (by k_mem)); (case i => assumption); (case a => omega); (case b => omega); (case c => omega); (case e => with_unfolding_all rfl)); intro t'))
local macro_rules | `(tactic| walk_at "subscriptTail Name Slice ref ref") => `(tactic| (k_here; (with_reducible show wpAny _ _ (subscriptTail _ (PySem.Expr.Slice _ _ none _) (Value.ref _) (Value.ref _)) _ _ _); k_dflt (refine' @Held.out _ (kmk_slice_intsh ?uuF ?uuN ?uul ?uup ?uuq ?uui ?uum ?uuc ?_ ?uus ?uut ?uuz); (case uuF => k_asm); (case uuN => k_asm); (case uul => exact News.isList (by k_asm) (by k_mem)); (case uup => exact IsPart.none); (case uuq => exact IsPart.int _ _); (case uui => assumption); (case uum => exact kmk_upto (by assumption) (by omega)); (case uuc => exact rfl); (case uus => with_unfolding_all rfl); (case uut => kmk_pure); (case uuz => exact kmk_sz (by assumption) (by rw [sizeLine_eq]; omega))); intro D' ws' h' F' N' l1 hI' hC' hL'; (try k_lt l1); (try k_sweep)))
local macro_rules | `(tactic| walk_at "my endX") => `(tactic| (refine' con_retX (by assumption) (by assumption) ?N ?M ?M2 ?S ?L ?L2 ?P; (case N => assumption); (case M => k_mem); (case M2 => k_mem); (case S => walk_at "my sub"); (case L => ((repeat ((with_reducible rename (_ ∧ _) => hl9); (obtain ⟨hx9, hl9'⟩ := hl9))); with_reducible assumption)); (case L2 => ((repeat ((with_reducible rename (_ ∧ _) => hl9); (obtain ⟨hx9, hl9'⟩ := hl9))); with_reducible assumption))))
theorem c_next (k y m d : Int) (t1 t2 t3 t4 : Tok) : ConX w mean mg mb 304 5 [.int k t1, .int y t2, .int m t3, .int d t4] ((0 ≤ k ∧ k ≤ 6) ∧ (-1800000 ≤ y ∧ y ≤ 1800000) ∧ -1000 ≤ m ∧ m ≤ 1000) (Nxt k y m d) := by
  refine ConX.mk ?_
  walk_at "my begin"
  have hp := (by assumption : (0 ≤ k ∧ k ≤ 6) ∧ (-1800000 ≤ y ∧ y ≤ 1800000) ∧ -1000 ≤ m ∧ m ≤ 1000)
  have st := llen_len hp.1 y
  have pos : 1 ≤ m → m ≤ ((llen k y).length : Int) → 1 ≤ (llen k y).getD (m - 1).toNat 0 := fun a b => llen_pos hp.1 y _ (at1_mem a b)
  k_steps
  all_goals walk_at "my endX"
  all_goals refine ⟨?_, ?_⟩
  all_goals first
    | (rw [cum_one]; omega)
    | (rw [cum_one, show ((1 : Int) - 1).toNat = 0 from rfl, List.take_zero, List.sum_nil]; omega)
    | (unfold cum; omega)
    | (unfold at1; omega)
end
end
section
open PySem PySem.W PySem.Calls PyProof.Rows PySem.Flt
theorem rs_ZN : True := by
  w_top off
  trivial
/-- zip over two tuples of one length (or over the iso date, which is a tuple) -/
theorem iso_slot_iter : Slot "datetime.IsoCalendarDate" "__iter__" "tuple.__iter__" :=
  .of (owner := "tuple") (n := "__iter__") (by rw [typeLookup_type, builtinLookup_eq_fast]; kernel_rfl) (by decide +kernel) (by decide +kernel) (by decide +kernel)
    (by first | exact .inl (by decide +kernel) | exact .inr (by decide +kernel)) (by rw [isSubtype_type]; kernel_rfl)
abbrev TupCls (c : Value) : Prop := c = .type "tuple" ∨ c = .type "datetime.IsoCalendarDate"
def TL (h : Heap) (a : Addr) (items : Array Value) : Prop := ∃ o, h.get? a = some o ∧ TupCls o.cls ∧ ∃ n, o.data = .seq items n
theorem TL.on {h h' : Heap} {a : Addr} {items : Array Value} (x : TL h a items) (k : ∀ o, h.get? a = some o → h'.get? a = some o) : TL h' a items := by
  obtain ⟨o, e, r⟩ := x
  exact ⟨o, k o e, r⟩
theorem ti_on {h h' : Heap} {a t : Addr} {i : Nat} (x : h.IsTupleIter a t i) (k : ∀ o, h.get? a = some o → h'.get? a = some o) : h'.IsTupleIter a t i := by
  obtain ⟨o, e, r⟩ := x
  exact ⟨o, k o e, r⟩
/-- the five objects of a zip that stand one behind the other from I on, and its two sources -/
structure ZS (h : Heap) (I l1 l2 : Addr) (i j : Nat) (xs ys : Array Value) (f a b : Value) : Prop where
  z : IsZip h (I + 4) (I + 2) (I + 3) f
  p : IsPair h (I + 2) (.ref I) (.ref (I + 1))
  o : IsPair h (I + 3) a b
  i1 : h.IsTupleIter I l1 i
  i2 : h.IsTupleIter (I + 1) l2 j
  s1 : TL h l1 xs
  s2 : TL h l2 ys
section
variable {h h' : Heap} {I l1 l2 : Addr} {i j : Nat} {xs ys : Array Value} {f a b : Value}
theorem ne_up {x I : Addr} (k : Nat) (h : @LT.lt Nat _ x I) : x ≠ I + k := Nat.ne_of_lt (Nat.lt_of_lt_of_le h (Nat.le_add_right I k))
theorem ne_at {I : Addr} (m k : Nat) (h : m ≠ k) : @Ne Nat (I + m) (I + k) := fun e => h (Nat.add_left_cancel e)
/-- all is kept but at the addresses of ws -/
theorem ZS.on (x : ZS h I l1 l2 i j xs ys f a b) (k : ∀ c ∈ [I + 4, I + 2, I + 3, I, I + 1, l1, l2], ∀ o, h.get? c = some o → h'.get? c = some o) : ZS h' I l1 l2 i j xs ys f a b :=
  ⟨k _ (by simp) _ x.z, k _ (by simp) _ x.p, k _ (by simp) _ x.o, ti_on x.i1 (k _ (by simp)), ti_on x.i2 (k _ (by simp)), x.s1.on (k _ (by simp)), x.s2.on (k _ (by simp))⟩
variable (m1 : @LT.lt Nat _ l1 I) (m2 : @LT.lt Nat _ l2 I)
include m1 m2
theorem ZS.zip (x : ZS h I l1 l2 i j xs ys f a b) {f' : Value} (k : Heap.ExtBut (I + 4) h h') (e : IsZip h' (I + 4) (I + 2) (I + 3) f') : ZS h' I l1 l2 i j xs ys f' a b :=
  ⟨e, k _ _ (ne_at 2 4 (by decide)) x.p, k _ _ (ne_at 3 4 (by decide)) x.o, ti_on x.i1 fun o => k _ o (ne_at 0 4 (by decide)), ti_on x.i2 fun o => k _ o (ne_at 1 4 (by decide)), x.s1.on fun o => k _ o (ne_up 4 m1), x.s2.on fun o => k _ o (ne_up 4 m2)⟩
theorem ZS.one (x : ZS h I l1 l2 i j xs ys f a b) {i' : Nat} (k : Heap.ExtBut I h h') (e : h'.IsTupleIter I l1 i') : ZS h' I l1 l2 i' j xs ys f a b :=
  ⟨k _ _ (ne_at 4 0 (by decide)) x.z, k _ _ (ne_at 2 0 (by decide)) x.p, k _ _ (ne_at 3 0 (by decide)) x.o, e, ti_on x.i2 fun o => k _ o (ne_at 1 0 (by decide)), x.s1.on fun o => k _ o (ne_up 0 m1), x.s2.on fun o => k _ o (ne_up 0 m2)⟩
theorem ZS.two (x : ZS h I l1 l2 i j xs ys f a b) {j' : Nat} (k : Heap.ExtBut (I + 1) h h') (e : h'.IsTupleIter (I + 1) l2 j') : ZS h' I l1 l2 i j' xs ys f a b :=
  ⟨k _ _ (ne_at 4 1 (by decide)) x.z, k _ _ (ne_at 2 1 (by decide)) x.p, k _ _ (ne_at 3 1 (by decide)) x.o, ti_on x.i1 fun o => k _ o (ne_at 0 1 (by decide)), e, x.s1.on fun o => k _ o (ne_up 1 m1), x.s2.on fun o => k _ o (ne_up 1 m2)⟩
theorem ZS.out (x : ZS h I l1 l2 i j xs ys f a b) {a' b' : Value} (k : Heap.ExtBut (I + 3) h h') (e : IsPair h' (I + 3) a' b') : ZS h' I l1 l2 i j xs ys f a' b' :=
  ⟨k _ _ (ne_at 4 3 (by decide)) x.z, k _ _ (ne_at 2 3 (by decide)) x.p, e, ti_on x.i1 fun o => k _ o (ne_at 0 3 (by decide)), ti_on x.i2 fun o => k _ o (ne_at 1 3 (by decide)), x.s1.on fun o => k _ o (ne_up 3 m1), x.s2.on fun o => k _ o (ne_up 3 m2)⟩
omit m1 m2 in
theorem ZS.new (x : ZS h I l1 l2 i j xs ys f a b) (o : Obj) : ZS (h.push o) I l1 l2 i j xs ys f a b := x.on fun _ _ _ e => Heap.get?_push_of_some _ e
end
section
variable {prog : Program} {w : World} {A : Around} {E : Value → Shared → Prop} {s : Shared}
theorem it_tl {t : Addr} {items : Array Value} {Q : Value → Shared → Prop} (ht : TL s.heap t items)
    (hQ : Q (.ref s.heap.objs.size) { s with heap := s.heap.push { cls := .type "tuple_iterator", data := .fields #[.ref t, .int 0 0] } }) : wpAny (model prog w) A (pyIter (.ref t)) Q E s := by
  obtain ⟨o, ho, c | c, hn⟩ := ht
  · exact wpAny_pyIter_tuple ⟨o, ho, c, hn⟩ hQ
  · have ty : s.TypeIs (.ref t) "datetime.IsoCalendarDate" := ⟨o, ho, c⟩
    refine wpAny_pyIter_slot ty iso_slot_iter (wpAny_call_entry iso_slot_iter ty F.entry_tuple_iter ?_ (F.args_tuple_iter_1 _))
    show wpAny _ _ (do ret (← newFields "tuple_iterator" [.ref t, rawInt 0])) _ _ s
    exact wpAny_bind (wpAny_newObj_type (wpAny_pure ⟨_, rfl, _, _, ⟨_, Heap.get?_push_size _ rfl, rfl⟩, F.slot_tuple_iterator_next.lookup, hQ⟩))
/-- one item is drawn: the entry of tuple_iterator.__next__ -/
theorem ti_some {it l : Addr} {i : Nat} {items : Array Value} {x : Value} {R : Fin → Shared → Prop} (hit : s.heap.IsTupleIter it l i) (hl : TL s.heap l items) (hx : items[i]? = some x)
    (hR : ∀ h', h'.IsTupleIter it l (i + 1) → Heap.SameBut it s.heap h' → R (.done (.ret x)) { s with heap := h' }) : wpAny (model prog w) A (Builtin.«tuple_iterator.__next__» ⟨[.ref it], []⟩) R E s := by
  obtain ⟨o, ho, hc, hd⟩ := hit
  obtain ⟨ol, hol, -, nl, hdl⟩ := hl
  show wpAny _ _ (field (.ref it) 0 >>= _) _ _ s
  refine wpAny_bind (wpAny_field ho hd (x := .ref l) rfl ?_)
  show wpAny _ _ (if (Value.ref l == Value.none) = true then _ else _) _ _ s
  rw [if_neg (by exact Bool.false_ne_true)]
  show wpAny _ _ (field (.ref it) 1 >>= _) _ _ s
  refine wpAny_bind (wpAny_field ho hd (x := .int i 0) rfl ?_)
  show wpAny _ _ (seqItems? (.ref l) >>= _) _ _ s
  refine wpAny_bind (wpAny_seqItems hol hdl ?_)
  simp only [Int.toNat_natCast, hx]
  refine wpAny_bind (wpAny_setField ho hd (by simp) (wpAny_pure (hR _ ⟨_, Heap.get?_update_self _ ho (Obj.isFreed_of_fields (Obj.data_mapFields hd _)), (Obj.cls_mapFields ..).trans hc, ?_⟩ (Heap.SameBut.update ..))))
  rw [Obj.data_mapFields hd]
  simp [rawInt]
theorem nx_some {it l : Addr} {i : Nat} {items : Array Value} {x : Value} {Q : Value → Shared → Prop} (hit : s.heap.IsTupleIter it l i) (hl : TL s.heap l items) (hx : items[i]? = some x)
    (hQ : ∀ h', h'.IsTupleIter it l (i + 1) → Heap.SameBut it s.heap h' → Q x { s with heap := h' }) : wpAny (model prog w) A (Builtin.SmallTypes.nextOf (.ref it)) Q E s := by
  unfold Builtin.SmallTypes.nextOf
  exact wpAny_bind (wpAny_callSpecial?_slot (name := Str.ofString "__next__") hit.typeIs F.slot_tuple_iterator_next (wpAny_call_entry F.slot_tuple_iterator_next hit.typeIs F.entry_tuple_iterator_next
    (ti_some hit hl hx fun h' a b => ⟨x, rfl, wpAny_pure (hQ h' a b)⟩) (F.args_tuple_iterator_next_1 _)))
theorem nx_none {it l : Addr} {i : Nat} {items : Array Value} {Q : Value → Shared → Prop} (hh : A.handled = none) (hit : s.heap.IsTupleIter it l i) (hl : TL s.heap l items) (hx : items[i]? = none)
    (hE : ∀ h' e, Heap.ExtBut it s.heap h' → (∃ o, h'.get? e = some o ∧ o.cls = .type "StopIteration") → E (.ref e) { s with heap := h' }) : wpAny (model prog w) A (Builtin.SmallTypes.nextOf (.ref it)) Q E s := by
  have ty := hit.typeIs
  obtain ⟨o, ho, hc, hd⟩ := hit
  obtain ⟨ol, hol, -, nl, hdl⟩ := hl
  unfold Builtin.SmallTypes.nextOf
  refine wpAny_bind (wpAny_callSpecial?_slot (name := Str.ofString "__next__") ty F.slot_tuple_iterator_next (wpAny_call_entry F.slot_tuple_iterator_next ty F.entry_tuple_iterator_next ?_ (F.args_tuple_iterator_next_1 _)))
  show wpAny _ _ (field (.ref it) 0 >>= _) _ _ s
  refine wpAny_bind (wpAny_field ho hd (x := .ref l) rfl ?_)
  show wpAny _ _ (if (Value.ref l == Value.none) = true then _ else _) _ _ s
  rw [if_neg (by exact Bool.false_ne_true)]
  show wpAny _ _ (field (.ref it) 1 >>= _) _ _ s
  refine wpAny_bind (wpAny_field ho hd (x := .int i 0) rfl ?_)
  show wpAny _ _ (seqItems? (.ref l) >>= _) _ _ s
  refine wpAny_bind (wpAny_seqItems hol hdl ?_)
  simp only [Int.toNat_natCast, hx]
  refine wpAny_bind (wpAny_rule (wpAny_bind (wpAny_setField ho hd (by simp) ?_)))
  show wpAny _ _ (newExc (.type "StopIteration") [] >>= _) _ _ _
  refine wpAny_bind ?_
  simp only [newExc, newTuple]
  refine wpAny_bind (wpAny_newObj_type ?_ (by size_fits))
  refine wpAny_bind (m := firstArgMember _ _) (wpAny_of_eq (a := Value.none) (by first | rfl | (simp only [firstArgMember]; rfl)) ?_)
  refine wpAny_newObj_type ?_ (by size_fits)
  simp only [raiseNew]
  refine wpAny_bind (wpAny_handled ?_)
  rw [show A.in1.handled = none from hh]
  exact wpAny_bind (wpAny_pure (wpAny_throw (hE _ _ (((Heap.SameBut.update ..).extBut.push _).push _) ⟨_, Heap.get?_push_size _ rfl, rfl⟩)))
/-- what is kept while a pair is drawn -/
abbrev KeepsBut (I : Addr) (h h' : Heap) : Prop := ∀ c o, c ∉ [I + 4, I + 3, I, I + 1] → h.get? c = some o → h'.get? c = some o
theorem KeepsBut.step {I c : Addr} {h h' h'' : Heap} (k : KeepsBut I h h') (hc : c ∈ [I + 4, I + 3, I, I + 1]) (e : Heap.ExtBut c h' h'') : KeepsBut I h h'' := fun d o hd x => e d o (fun q => hd (q ▸ hc)) (k d o hd x)
theorem KeepsBut.refl {I : Addr} {h : Heap} : KeepsBut I h h := fun _ _ _ x => x
theorem zs_type {I l1 l2 : Addr} {i j : Nat} {xs ys : Array Value} {f a b : Value} (x : ZS s.heap I l1 l2 i j xs ys f a b) : s.TypeIs (.ref (I + 4)) "zip" := ⟨_, x.z, rfl⟩
/-- a pair is drawn -/
theorem zs_next {I l1 l2 : Addr} {i : Nat} {xs ys : Array Value} {a b x y : Value} {Q : Option Value → Shared → Prop} (m1 : @LT.lt Nat _ l1 I) (m2 : @LT.lt Nat _ l2 I) (Z : ZS s.heap I l1 l2 i i xs ys .none a b) (hx : xs[i]? = some x) (hy : ys[i]? = some y)
    (hQ : ∀ h', ZS h' I l1 l2 (i + 1) (i + 1) xs ys (rawInt s.heap.objs.size) x y → IsPair h' s.heap.objs.size x y → KeepsBut I s.heap h' → Q (some (.ref s.heap.objs.size)) { s with heap := h' }) : wpAny (model prog w) A (pyNext (.ref (I + 4))) Q E s := by
  unfold pyNext
  refine wpAny_bind (wpAny_attempt (wpAny_callSpecial?_slot (name := Str.ofString "__next__") (zs_type Z) F.slot_zip_next (wpAny_call_entry F.slot_zip_next (zs_type Z) F.entry_zip_next ?_ (F.args_zip_next_1 _))))
  show wpAny _ _ (field (.ref (I + 4)) 2 >>= _) _ _ _
  refine wpAny_bind (wpAny_field Z.z rfl (x := .bool false) rfl ?_)
  show wpAny _ _ (field (.ref (I + 4)) 3 >>= _) _ _ _
  refine wpAny_bind (wpAny_field Z.z rfl (x := .ref (I + 2)) rfl (wpAny_bind (wpAny_seqItems Z.p rfl ?_)))
  show wpAny _ _ (Builtin.SmallTypes.ownedTupleIsFree (.ref (I + 4)) >>= _) _ _ _
  refine wpAny_bind ?_
  unfold Builtin.SmallTypes.ownedTupleIsFree
  refine wpAny_bind (wpAny_field Z.z rfl (x := .none) rfl (wpAny_pure ?_))
  simp only [if_true]
  refine wpAny_bind (wpAny_rule (wpAny_bind (wpAny_field Z.z rfl (x := .ref (I + 3)) rfl (wpAny_bind (wpAny_setField_rec Z.z (by simp) fun h₁ e₁ k₁ => wpAny_bind ?_)))))
  have Z₁ := Z.zip m1 m2 k₁.extBut (show IsZip h₁ (I + 4) (I + 2) (I + 3) .ellipsis from e₁)
  simp only [List.zipIdx_cons, List.zipIdx_nil, List.forIn_cons, List.forIn_nil]
  refine wpAny_bind (wpAny_bind (wpAny_onRaise ?_))
  show wpAny _ _ (Builtin.SmallTypes.nextOf (.ref I) >>= _) _ _ _
  refine wpAny_bind (nx_some Z₁.i1 Z₁.s1 hx fun h₂ e₂ k₂ => wpAny_pure ?_)
  have Z₂ := Z₁.one m1 m2 k₂.extBut e₂
  refine wpAny_bind (wpAny_seqItems Z₂.o rfl (wpAny_bind (wpAny_updateSeq_pair Z₂.o fun h₃ e₃ k₃ => wpAny_bind (wpAny_letGo (wpAny_pure ?_)))))
  have Z₃ := Z₂.out m1 m2 k₃.extBut (show IsPair h₃ (I + 3) x b from e₃)
  refine wpAny_bind (wpAny_bind (wpAny_onRaise ?_))
  show wpAny _ _ (Builtin.SmallTypes.nextOf (.ref (I + 1)) >>= _) _ _ _
  refine wpAny_bind (nx_some Z₃.i2 Z₃.s2 hy fun h₄ e₄ k₄ => wpAny_pure ?_)
  have Z₄ := Z₃.two m1 m2 k₄.extBut e₄
  refine wpAny_bind (wpAny_seqItems Z₄.o rfl (wpAny_bind (wpAny_updateSeq_pair Z₄.o fun h₅ e₅ k₅ => wpAny_bind (wpAny_letGo (wpAny_pure (wpAny_pure ?_))))))
  have Z₅ := Z₄.out m1 m2 k₅.extBut (show IsPair h₅ (I + 3) x y from e₅)
  have size : h₅.objs.size = s.heap.objs.size := by rw [k₅.1, k₄.1, k₃.1, k₂.1, k₁.1]
  have K₅ : KeepsBut I s.heap h₅ := ((((KeepsBut.refl.step (by simp) k₁.extBut).step (by simp) k₂.extBut).step (by simp) k₃.extBut).step (by simp) k₄.extBut).step (by simp) k₅.extBut
  refine wpAny_bind (wpAny_seqItems Z₅.o rfl (wpAny_bind (wpAny_newTuple ?_)))
  show wpAny _ _ (Builtin.SmallTypes.ownedTupleHandOut (.ref (I + 4)) (.ref h₅.objs.size) >>= _) _ _ _
  refine wpAny_bind ?_
  unfold Builtin.SmallTypes.ownedTupleHandOut
  have Z₆ := Z₅.new { cls := .type "tuple", data := .seq #[x, y] }
  refine wpAny_bind (wpAny_setField_rec Z₆.z (by simp) fun h₇ e₇ k₇ => ?_)
  have Z₇ := Z₆.zip m1 m2 k₇.extBut (show IsZip h₇ (I + 4) (I + 2) (I + 3) (rawInt h₅.objs.size) from e₇)
  refine wpAny_setField_rec Z₇.z (by simp) fun h₈ e₈ k₈ => wpAny_pure ⟨_, rfl, ?_⟩
  have Z₈ := Z₇.zip m1 m2 k₈.extBut (show IsZip h₈ (I + 4) (I + 2) (I + 3) (rawInt h₅.objs.size) from e₈)
  have far : @Ne Nat h₅.objs.size (I + 4) := Nat.ne_of_gt (Heap.lt_size Z₅.z)
  have T₈ : IsPair h₈ h₅.objs.size x y := k₈.extBut _ _ far (k₇.extBut _ _ far (Heap.get?_push_size _ rfl))
  rw [size] at Z₈ T₈
  show wpAny _ _ (pure (some (Value.ref h₅.objs.size))) _ _ _
  rw [size]
  refine wpAny_pure (hQ h₈ Z₈ T₈ fun c o hc e => ?_)
  have c4 : c ≠ I + 4 := fun q => hc (by simp [q])
  exact k₈.extBut _ _ c4 (k₇.extBut _ _ c4 (Heap.get?_push_of_some _ (K₅ c o hc e)))
/-- the sources are at their end -/
theorem zs_end {I l1 l2 : Addr} {i : Nat} {xs ys : Array Value} {a b : Value} {Q : Option Value → Shared → Prop} (hh : A.handled = none) (m1 : @LT.lt Nat _ l1 I) (m2 : @LT.lt Nat _ l2 I) (Z : ZS s.heap I l1 l2 i i xs ys .none a b) (hx : xs[i]? = none)
    (hQ : ∀ h', KeepsBut I s.heap h' → Q none { s with heap := h' }) : wpAny (model prog w) A (pyNext (.ref (I + 4))) Q E s := by
  unfold pyNext
  refine wpAny_bind (wpAny_attempt (wpAny_callSpecial?_slot (name := Str.ofString "__next__") (zs_type Z) F.slot_zip_next (wpAny_call_entry F.slot_zip_next (zs_type Z) F.entry_zip_next ?_ (F.args_zip_next_1 _))))
  show wpAny _ _ (field (.ref (I + 4)) 2 >>= _) _ _ _
  refine wpAny_bind (wpAny_field Z.z rfl (x := .bool false) rfl ?_)
  show wpAny _ _ (field (.ref (I + 4)) 3 >>= _) _ _ _
  refine wpAny_bind (wpAny_field Z.z rfl (x := .ref (I + 2)) rfl (wpAny_bind (wpAny_seqItems Z.p rfl ?_)))
  show wpAny _ _ (Builtin.SmallTypes.ownedTupleIsFree (.ref (I + 4)) >>= _) _ _ _
  refine wpAny_bind ?_
  unfold Builtin.SmallTypes.ownedTupleIsFree
  refine wpAny_bind (wpAny_field Z.z rfl (x := .none) rfl (wpAny_pure ?_))
  simp only [if_true]
  refine wpAny_bind (wpAny_rule (wpAny_bind (wpAny_field Z.z rfl (x := .ref (I + 3)) rfl (wpAny_bind (wpAny_setField_rec Z.z (by simp) fun h₁ e₁ k₁ => wpAny_bind ?_)))))
  have Z₁ := Z.zip m1 m2 k₁.extBut (show IsZip h₁ (I + 4) (I + 2) (I + 3) .ellipsis from e₁)
  simp only [List.zipIdx_cons, List.zipIdx_nil, List.forIn_cons, List.forIn_nil]
  refine wpAny_bind (wpAny_bind (wpAny_onRaise ?_))
  show wpAny _ _ (Builtin.SmallTypes.nextOf (.ref I) >>= _) _ _ _
  refine wpAny_bind (nx_none hh Z₁.i1 Z₁.s1 hx fun h₂ e k₂ st => ?_)
  obtain ⟨oe, hoe, hce⟩ := st
  have z₂ : IsZip h₂ (I + 4) (I + 2) (I + 3) .ellipsis := k₂ _ _ (ne_at 4 0 (by decide)) Z₁.z
  have far : e ≠ I + 4 := fun q => by subst q; rw [z₂] at hoe; cases hoe; simp at hce
  refine wpAny_setField_rec z₂ (by simp) fun h₃ _ k₃ => ?_
  refine wpAny_bind (wpAny_isInstance (T := "StopIteration") (b := true) ⟨oe, k₃.extBut _ _ far hoe, hce⟩ isSubtype_stop (wpAny_pure (hQ _ ?_)))
  exact ((KeepsBut.refl.step (by simp) k₁.extBut).step (by simp) k₂).step (by simp) k₃.extBut
theorem zs_walks {I l1 l2 : Addr} (hh : A.handled = none) (m1 : @LT.lt Nat _ l1 I) (m2 : @LT.lt Nat _ l2 I) (xs ys : Array Value) (hs : xs.size = ys.size) :
    WalksT prog w A (I + 4) [I + 4, I + 2, I + 3, I, I + 1, l1, l2] [I + 4, I + 3, I, I + 1] xs.size (fun i vals => ∃ x y, xs[i]? = some x ∧ ys[i]? = some y ∧ vals = #[x, y])
      (fun i h => ∃ a b, ZS h I l1 l2 i i xs ys .none a b) (fun i T h => (∃ a b, ZS h I l1 l2 (i + 1) (i + 1) xs ys (rawInt T) a b) ∧ T ∉ [I + 4, I + 3, I, I + 1]) where
  sub := fun c hc => by
    simp only [List.mem_cons, List.not_mem_nil, or_false] at hc ⊢
    rcases hc with q | q | q | q <;> simp [q]
  frame := fun i h h' st k => by
    obtain ⟨a, b, Z⟩ := st
    exact ⟨a, b, Z.on k⟩
  item := fun i s Q E hi st hQ => by
    obtain ⟨a, b, Z⟩ := st
    have hx : xs[i]? = some xs[i] := Array.getElem?_eq_getElem hi
    have hy : ys[i]? = some (ys[i]'(hs ▸ hi)) := Array.getElem?_eq_getElem _
    refine zs_next m1 m2 Z hx hy fun h' Z' T' k => hQ _ _ h' s.toks ⟨_, _, hx, hy, rfl⟩ (Nat.le_refl _) ⟨_, T', rfl, _, rfl⟩ ⟨⟨_, _, Z'⟩, fun hm => ?_⟩ k
    have old : ∀ c o, s.heap.get? c = some o → s.heap.objs.size ≠ c := fun c o e => Nat.ne_of_gt (Heap.lt_size e)
    simp only [List.mem_cons, List.not_mem_nil, or_false] at hm
    obtain ⟨o1, q1, -⟩ := Z.i1
    obtain ⟨o2, q2, -⟩ := Z.i2
    rcases hm with q | q | q | q
    · exact old _ _ Z.z q
    · exact old _ _ Z.o q
    · exact old _ _ q1 q
    · exact old _ _ q2 q
  go := fun elts k pos i T s Q E st hQ => by
    obtain ⟨⟨a, b, Z⟩, -⟩ := st
    exact wpAny_letOwnedTupleGo_zip Z.z fun h' z' k' => hQ h' ⟨a, b, Z.zip m1 m2 k'.extBut z'⟩ fun c o hc e => k'.extBut c o (fun q => hc (by simp [q])) e
  apart := fun i T h st => st.2
  done := fun s Q E st hQ => by
    obtain ⟨a, b, Z⟩ := st
    exact zs_end hh m1 m2 Z (Array.getElem?_eq_none (Nat.le_refl _)) fun h' k => hQ h' s.toks k
  self := fun i s Q E st hQ => by
    obtain ⟨a, b, Z⟩ := st
    exact wpAny_pyIter_zip Z.z hQ
theorem push_at {H : Heap} {o : Obj} {n : Addr} (e : H.objs.size = n) (f : o.isFreed = false) : (H.push o).get? n = some o := e ▸ Heap.get?_push_size _ f
local macro_rules | `(tactic| walk_at "my zn") => `(tactic| first
  | with_reducible (first | refine wpAny_pure ?_ | refine wpAny_bind ?_ | refine wpAny_holding ?_ | refine wpAny_mkInt' ?_ | refine wpAny_fresh' ?_ | refine wpAny_alloc' ?_ | refine wpAny_of_eq (by assumption) ?_)
  | ((with_reducible refine PySem.wpAny_ite_false ?hc ?_); (case hc => rfl))
  | ((with_reducible refine PySem.wpAny_ite_true ?hc ?_); (case hc => rfl))
  | wp_delta | wp_step)
theorem zs_new (l1 l2 : Addr) (xs ys : Array Value) :
    Meets (Builtin.«zip.__new__» ⟨[.type "zip", .ref l1, .ref l2], []⟩) (fun _ R s => TL s.heap l1 xs ∧ TL s.heap l2 ys ∧
      ∀ h', ZS h' s.heap.objs.size l1 l2 0 0 xs ys .none .none .none → (∀ c o, s.heap.get? c = some o → h'.get? c = some o) → R (.ok (.ret (.ref (s.heap.objs.size + 4)))) { s with heap := h' }) :=
  .of_wp fun prog w A R s h => by
    obtain ⟨hp, g, d, tk, os⟩ := s
    obtain ⟨t1, t2, h⟩ := h
    have up : ∀ (H : Heap) (o : Obj), ∀ c p, H.get? c = some p → (H.push o).get? c = some p := fun H o c p e => Heap.get?_push_of_some _ e
    have hsub := sub_zip
    have T1 : TL (Shared.heap ⟨hp, g, d, tk, os⟩) l1 xs := t1
    have T2 : TL (Shared.heap ⟨hp.push { cls := .type "tuple_iterator", data := .fields #[.ref l1, .int 0 0] }, g, d, tk, os⟩) l2 ys := t2.on (up _ _ _)
    repeat (first | with_reducible refine it_tl T1 ?_ | with_reducible refine it_tl T2 ?_ | walk_at "my zn")
    refine ⟨_, rfl, ?_⟩
    have key := h _ (ZS.mk (h := ((((hp.push { cls := .type "tuple_iterator", data := .fields #[.ref l1, .int 0 0] }).push { cls := .type "tuple_iterator", data := .fields #[.ref l2, .int 0 0] }).push { cls := .type "tuple", data := .seq #[.ref hp.objs.size, .ref (hp.objs.size + 1)] }).push { cls := .type "tuple", data := .seq #[.none, .none] }).push
      { cls := .type "zip", data := .fields #[.none, .bool false, .bool false, .ref (hp.objs.size + 2), .ref (hp.objs.size + 3)] })
      (push_at (by simp [Heap.size_push]) rfl) (up _ _ _ _ (up _ _ _ _ (push_at (by simp [Heap.size_push]) rfl))) (up _ _ _ _ (push_at (by simp [Heap.size_push]) rfl))
      ⟨_, up _ _ _ _ (up _ _ _ _ (up _ _ _ _ (up _ _ _ _ (push_at rfl rfl)))), rfl, rfl⟩ ⟨_, up _ _ _ _ (up _ _ _ _ (up _ _ _ _ (push_at (by simp [Heap.size_push]) rfl))), rfl, rfl⟩
      (t1.on fun o e => up _ _ _ _ (up _ _ _ _ (up _ _ _ _ (up _ _ _ _ (up _ _ _ _ e))))) (t2.on fun o e => up _ _ _ _ (up _ _ _ _ (up _ _ _ _ (up _ _ _ _ (up _ _ _ _ e)))))) fun c o e => up _ _ _ _ (up _ _ _ _ (up _ _ _ _ (up _ _ _ _ (up _ _ _ _ e))))
    simp only [Heap.size_push]
    exact key
theorem zs_call {l1 l2 : Addr} {xs ys : Array Value} {Q : Value → Shared → Prop} (t1 : TL s.heap l1 xs) (t2 : TL s.heap l2 ys)
    (h : ∀ h', ZS h' s.heap.objs.size l1 l2 0 0 xs ys .none .none .none → (∀ c o, s.heap.get? c = some o → h'.get? c = some o) → Q (.ref (s.heap.objs.size + 4)) { s with heap := h' }) : wpAny (model prog w) A (call (.type "zip") [.ref l1, .ref l2]) Q E s :=
  callType_new F.called_zip (by decide) (F.typeCall_zip_2 _ _) (F.newCall_zip_2 _ _) (fun obj => F.args_object_init_3 obj _ _) F.entry_zip_new (zs_new l1 l2 xs ys) ⟨t1, t2, fun h' Z k => ⟨⟨_, Z.z, rfl⟩, h h' Z k⟩⟩
end
section
variable {prog : Program} {w : World} {A : Around} {E : Value → Shared → Prop} {s : Shared} {h₀ : Heap} {env : Env} {body : List Stmt} {Q : Flow → Shared → Prop}
theorem zt_turns {elts : List Expr} {k : Nat} {pos : Pos} {l1 l2 : Addr} {lo1 lo2 : Obj} {xs ys : List Value} {n1 n2 : Nat} {m₀ : Str → Option Value} {news : List (Addr × Obj)}
    (hh : A.handled = none) (F : Fr h₀ env.locals s.heap m₀) (N : News h₀ env.locals s.heap news) (hm1 : (l1, lo1) ∈ news) (hc1 : TupCls lo1.cls) (hd1 : lo1.data = .seq xs.toArray n1) (hm2 : (l2, lo2) ∈ news) (hc2 : TupCls lo2.cls) (hd2 : lo2.data = .seq ys.toArray n2)
    (hs : xs.length = ys.length)
    (rest₀ : ∀ I : Addr, (∀ p ∈ news, p.1 < I) → ItemsRest prog w A E h₀ env (.Tuple elts k pos) body Q s [(I + 4, "zip"), (I + 2, "tuple"), (I + 3, "tuple"), (I, "tuple_iterator"), (I + 1, "tuple_iterator")] [(l1, lo1), (l2, lo2)] (zipItems xs ys) m₀ news) :
    wpAny (model prog w) A (call (.type "zip") [.ref l1, .ref l2]) (fun xv s₁ => wpAny (model prog w) A (pyIter xv) (fun it s₂ => TurnsAt prog w A h₀ env (.Tuple elts k pos) body Q E it s₂) E s₁) E s := by
  have g1 := N _ hm1
  have g2 := N _ hm2
  have b1 : @LT.lt Nat _ l1 s.heap.objs.size := Heap.lt_size g1.1
  have b2 : @LT.lt Nat _ l2 s.heap.objs.size := Heap.lt_size g2.1
  have bL : @LT.lt Nat _ env.locals s.heap.objs.size := F.ns.lt
  refine zs_call ⟨lo1, g1.1, hc1, n1, hd1⟩ ⟨lo2, g2.1, hc2, n2, hd2⟩ fun h' Z kp => wpAny_pyIter_zip Z.z ?_
  refine ktu_core (tk0 := s.toks) (keep := [(l1, lo1), (l2, lo2)]) (KTurns.ofWalksU (zs_walks hh b1 b2 xs.toArray ys.toArray (by simpa using hs)).toU) (by simp [zipItems_length, hs]) ?_ ?_ ?_ ?_ ?_ ?_ ?_ ⟨_, _, Z⟩ (F.keeps kp) (N.grown kp)
    (And.intro hm1 (And.intro hm2 trivial)) (rest₀ _ fun p hp => Heap.lt_size (N p hp).1)
  · rintro i v h ⟨T, vals, rfl, ⟨x, y, hx, hy, rfl⟩, hT⟩
    exact ⟨_, zipItems_get xs ys i (x := x) (y := y) (by simpa using hx) (by simpa using hy), T, 0, rfl, hT⟩
  · rintro i h ⟨a, b, Zi⟩
    obtain ⟨o1, q1, r1, -⟩ := Zi.i1
    obtain ⟨o2, q2, r2, -⟩ := Zi.i2
    have ez : ∃ o : Obj, h.get? (s.heap.objs.size + 4) = some o ∧ o.cls = .type "zip" := ⟨_, Zi.z, rfl⟩
    have ep : ∃ o : Obj, h.get? (s.heap.objs.size + 2) = some o ∧ o.cls = .type "tuple" := ⟨_, Zi.p, rfl⟩
    have eo : ∃ o : Obj, h.get? (s.heap.objs.size + 3) = some o ∧ o.cls = .type "tuple" := ⟨_, Zi.o, rfl⟩
    obtain ⟨oz, qz, rz⟩ := ez
    obtain ⟨op, qp, rp⟩ := ep
    obtain ⟨oo, qo, ro⟩ := eo
    refine ⟨[(_, oz), (_, op), (_, oo), (_, o1), (_, o2)], ⟨⟨rfl, rz⟩, ⟨rfl, rp⟩, ⟨rfl, ro⟩, ⟨rfl, r1⟩, ⟨rfl, r2⟩, trivial⟩, fun p hp => ?_⟩
    simp only [List.mem_cons, List.not_mem_nil, or_false] at hp
    rcases hp with rfl | rfl | rfl | rfl | rfl
    · exact qz
    · exact qp
    · exact qo
    · exact q1
    · exact q2
  · intro c hc
    simp only [List.map_cons, List.map_nil, List.mem_cons, List.not_mem_nil, or_false] at hc
    have fresh : ∀ n : Nat, h₀.get? (s.heap.objs.size + n) = none := fun n => ktu_new F (Nat.le_add_right _ _)
    rcases hc with rfl | rfl | rfl | rfl | rfl
    · exact ⟨by simp, fresh 4⟩
    · exact ⟨by simp, fresh 2⟩
    · exact ⟨by simp, fresh 3⟩
    · exact ⟨by simp, fresh 0⟩
    · exact ⟨by simp, fresh 1⟩
  · intro c hc
    simp only [List.mem_cons, List.not_mem_nil, or_false] at hc
    rcases hc with rfl | rfl | rfl | rfl <;> simp
  · intro c hc
    simp only [List.mem_cons, List.not_mem_nil, or_false] at hc
    rcases hc with rfl | rfl | rfl | rfl | rfl | rfl | rfl
    iterate 5 exact Or.inl (by simp)
    · exact Or.inr ⟨lo1, by simp⟩
    · exact Or.inr ⟨lo2, by simp⟩
  · intro hc
    simp only [List.mem_cons, List.not_mem_nil, or_false] at hc
    rcases hc with e | e | e | e | e | e | e
    · exact ne_up 4 bL e
    · exact ne_up 2 bL e
    · exact ne_up 3 bL e
    · exact ne_up 0 bL e
    · exact ne_up 1 bL e
    · exact g1.2.1 e.symm
    · exact g2.2.1 e.symm
  · intro p hp hc
    have bp : @LT.lt Nat _ p.1 s.heap.objs.size := Heap.lt_size (N p hp).1
    simp only [List.mem_cons, List.not_mem_nil, or_false] at hc
    rcases hc with e | e | e | e
    · exact ne_up 4 bp e
    · exact ne_up 3 bp e
    · exact ne_up 0 bp e
    · exact ne_up 1 bp e
end
section
set_option linter.all false
def zt_turnsh := fun {x0} {x1} {x2} {x3} {x4} {x5} {x6} {x7} {x8} {x9} {x10} {x11} {x12} {x13} {x14} {x15} {x16} {x17} {x18} {x19} {x20} {x21} (x22) (x23) (x24) (x25) (x26) (x27) (x28) (x29) (x30) (x31) (x32) => Held.mk (@Mine.zt_turns x0 x1 x2 x3 x4 x5 x6 x7 x8 x9 x10 x11 x12 x13 x14 x15 x16 x17 x18 x19 x20 x21 x22 x23 x24 x25 x26 x27 x28 x29 x30 x31 x32)
end
end
section
open PySem PySem.W PySem.Calls PyProof.Rows PySem.Flt
theorem rs_LH : True := by
  w_top off
  trivial
section
variable {w : World} {mean : ExcName → Option Value} {mg mb : Str → Option Value}
theorem zt_endW {h₀ h' : Heap} {L I : Addr} {s₁ : Shared} {o1 o2 o3 o4 o5 : Obj} {rest : (Str → Option Value) → List (Addr × Obj) → Prop} {tk : Nat} {m' : Str → Option Value} {all news' : List (Addr × Obj)} (F : Fr h₀ L h' m') (N : News h₀ L h' all)
    (sub : ∀ p ∈ [(I + 4, o1), (I + 2, o2), (I + 3, o3), (I, o4), (I + 1, o5)] ++ news', p ∈ all) (hlt : ∀ p ∈ news', p.1 < I) (r : rest m' news') : UnrEndW h₀ L s₁ [(I + 4, o1), (I + 2, o2), (I + 3, o3), (I, o4), (I + 1, o5)] rest { s₁ with heap := h', toks := tk } := by
  refine ⟨h', tk, m', news', rfl, F, fun p hp => N p (sub p hp), fun p hp q hq e => ?_, r⟩
  have h1 : @LT.lt Nat _ p.1 I := hlt p hp
  have h2 : @LE.le Nat _ I q.1 := by
    simp only [List.mem_cons, List.not_mem_nil, or_false] at hq
    rcases hq with rfl | rfl | rfl | rfl | rfl
    · exact Nat.le_add_right _ _
    · exact Nat.le_add_right _ _
    · exact Nat.le_add_right _ _
    · exact Nat.le_refl _
    · exact Nat.le_add_right _ _
  exact absurd (Nat.lt_of_lt_of_le h1 h2) (e ▸ Nat.lt_irrefl _)
local macro_rules | `(tactic| walk_at "exec For Tuple Call cons nil") => `(tactic| (k_here; (rename Fr _ _ _ _ => lF'); (with_unfolding_all refine' For_turns lF' ?_; k_whole)))
local macro_rules | `(tactic| walk_at "call type:zip") => `(tactic| (k_here; (rename Fr _ _ _ _ => lF'); (rename News _ _ _ _ => lN'); (with_unfolding_all refine' @Held.out _ (zt_turnsh ?h0 lF' lN' ?m1 ?c1 ?d1 ?m2 ?c2 ?d2 ?sz ?_); (case h0 => rfl); (case m1 => k_mem); (case m2 => k_mem); (case c1 => assumption); (case c2 => exact Or.inl rfl); (case d1 => rfl); (case d2 => rfl); (case sz => rfl)); clear lF'; intro i' l1; (try dsimp only [List.toArray, zipItems])))
local macro_rules | `(tactic| walk_at "UnrEndW") => `(tactic| (refine' zt_endW (by assumption) (by assumption) ?S ?H ?_; (case S => exact fun _ h => h); (case H => assumption); (refine And.intro (by k_subL) ?_)))
theorem c_earl3 (D D2 : Addr) (C : Value) (y m d Y M O : Int) (t1 t2 t3 t4 t5 t6 : Tok) : ConQ w mean mg mb 311 2 [.ref D, .ref D2] (D, ({ cls := C, data := .seq #[.int y t1, .int m t2, .int d t3] } : Obj)) (D2, ({ cls := .type "tuple", data := .seq #[.int Y t4, .int M t5, .int O t6] } : Obj)) (C = .type "tuple" ∨ C = .type "datetime.IsoCalendarDate") mkB (fun b => match b with | true => Lex y m d Y M O | false => ¬ Lex y m d Y M O) := by
  refine ConQ.mk ?_
  walk_at "my begin"
  k_steps
  all_goals walk_at "my endB"
end
end
section
open PySem PySem.W PySem.Calls PyProof.Rows PySem.Flt
theorem rs_ET : True := by
  w_top off
  trivial
/-- an iso date is compared with a tuple of the same three numbers -/
theorem iso_slot_ne : Slot "datetime.IsoCalendarDate" (cmpInfo .NotEq).2.1 "tuple.__ne__" :=
  .of (owner := "tuple") (n := "__ne__") (by rw [typeLookup_type, builtinLookup_eq_fast]; kernel_rfl) (by decide +kernel) (by decide +kernel) (by decide +kernel)
    (by first | exact .inl (by decide +kernel) | exact .inr (by decide +kernel)) (by rw [isSubtype_type]; kernel_rfl)
theorem iso_sub_ne : isSubtype (.type "tuple") (.type "datetime.IsoCalendarDate") = pure false := by rw [isSubtype_type]; kernel_rfl
theorem seq_ne_meets (l b : Addr) (C : Value) (xs ys : Array Value) (hsz : xs.size = ys.size) (hz0 : ∀ p ∈ xs.toList.zip ys.toList, ∃ (n : Int) (t u : Tok), p = (Value.int n t, Value.int n u)) :
    Meets (Builtin.«tuple.__ne__» ⟨[.ref l, .ref b], []⟩)
      (fun _ R s => s.heap.get? l = some { cls := C, data := .seq xs } ∧ s.heap.get? b = some { cls := .type "tuple", data := .seq ys } ∧
        R (.ok (.ret (.bool false))) s) :=
  .of_wp fun prog w A R s h => by
    obtain ⟨hp, g, dr, tk, os⟩ := s; obtain ⟨hl, hb, h⟩ := h
    have f2 := AutoSeq1.sub_tuple_tuple
    wp_walk using wpAny_loadPart' hl, wpAny_loadPart' hb, wpAny_forIn_list _ (fun rest b s' => b.1 = none ∧ s' = ⟨hp, g, dr, tk, os⟩ ∧ ∀ p ∈ rest, ∃ (n : Int) (t u : Tok), p = (Value.int n t, Value.int n u)) _
    case turn =>
      rintro ⟨y', x'⟩ rest b s' ⟨hb', rfl, hz⟩
      obtain ⟨n, t, u, e⟩ := hz _ List.mem_cons_self
      cases e
      refine wpAny_bind (wpAny_eqBool_int ?_)
      have e1 : (n == n) = true := by simp
      rw [e1]
      exact wpAny_pure ⟨rfl, rfl, fun p hp => hz p (List.mem_cons_of_mem _ hp)⟩
    case fin =>
      rintro ⟨b1, b2⟩ s' ⟨hb', rfl, hz⟩
      simp only at hb'
      subst hb'
      wp_walk
      exact ⟨_, rfl, by simpa [Builtin.Tuple.tupleCompareSizes, bne, hsz] using h⟩
    case h =>
      exact ⟨rfl, rfl, hz0⟩
section
variable {prog : Program} {w : World} {A : Around} {E : Value → Shared → Prop} {s : Shared} {Q : Value → Shared → Prop} {h₀ : Heap} {L : Addr} {news : List (Addr × Obj)} {xs ys : Array Value} {a b : Addr}
theorem seq_ne (N : News h₀ L s.heap news) (ha : (a, ({ cls := .type "tuple", data := .seq xs } : Obj)) ∈ news) (hb : (b, ({ cls := .type "tuple", data := .seq ys } : Obj)) ∈ news) (hsz : xs.size = ys.size)
    (hz : ∀ p ∈ xs.toList.zip ys.toList, ∃ (n : Int) (t u : Tok), p = (Value.int n t, Value.int n u)) (hu : A.units < cLine) (h : Q (.bool false) s) : wpAny (model prog w) A (compareOp .NotEq (.ref a) (.ref b)) Q E s := by
  show wpAny _ A (richCompare .NotEq _ _) Q E s
  exact @Held.out _ (richCompare_meets_roomh ⟨_, (N _ ha).1, rfl⟩ ⟨_, (N _ hb).1, rfl⟩ F.slot_tuple_ne F.entry_tuple_ne (F.args_tuple_ne_2 _ _) (seq_ne_meets a b _ xs ys hsz hz) ⟨(N _ ha).1, (N _ hb).1, nofun, h⟩ hu)
theorem iso_ne (N : News h₀ L s.heap news) (ha : (a, ({ cls := .type "datetime.IsoCalendarDate", data := .seq xs } : Obj)) ∈ news) (hb : (b, ({ cls := .type "tuple", data := .seq ys } : Obj)) ∈ news) (hsz : xs.size = ys.size)
    (hz : ∀ p ∈ xs.toList.zip ys.toList, ∃ (n : Int) (t u : Tok), p = (Value.int n t, Value.int n u)) (hu : A.units < cLine) (h : Q (.bool false) s) : wpAny (model prog w) A (compareOp .NotEq (.ref a) (.ref b)) Q E s := by
  show wpAny _ A (richCompare .NotEq _ _) Q E s
  have hTa : s.TypeIs (.ref a) "datetime.IsoCalendarDate" := ⟨_, (N _ ha).1, rfl⟩
  have hTb : s.TypeIs (.ref b) "tuple" := ⟨_, (N _ hb).1, rfl⟩
  have hc : wpAny (model prog w) A (call (.builtin "tuple.__ne__") [.ref a, .ref b]) (fun v s' => v ≠ .notImplemented ∧ Q v s') E s :=
    call_meets iso_slot_ne hTa F.entry_tuple_ne (F.args_tuple_ne_2 _ _) (seq_ne_meets a b _ xs ys hsz hz) ⟨(N _ ha).1, (N _ hb).1, nofun, h⟩
  have hs := iso_slot_ne
  rcases hi : cmpInfo .NotEq with ⟨sym, f, r⟩
  rw [hi] at hs
  simp only [richCompare, hi, hTa.oneThing_none]
  try with_reducible refine wpAny_holding ?_
  refine wpAny_bind (wpAny_cRoomFor_or (.inr hu) ?_)
  refine wpAny_bind (wpAny_typeOf hTa (wpAny_bind (wpAny_typeOf hTb ?_)))
  have hne : (Value.type "datetime.IsoCalendarDate" != Value.type "tuple") = true := by decide
  simp only [hne, if_true]
  refine wpAny_bind (wpAny_of_eq iso_sub_ne ?_)
  simp only [Bool.false_eq_true, if_false]
  exact wpAny_bind (wpAny_tryCompare_slot hTa hs (wpAny_mono hc (fun v s' h' => ⟨h'.1, wpAny_pure h'.2⟩) fun _ _ h' => h'))
theorem zip3 {y m d y' m' d' : Int} {t1 t2 t3 t4 t5 t6 : Tok} (h1 : y = y') (h2 : m = m') (h3 : d = d') : ∀ p ∈ (#[Value.int y t1, .int m t2, .int d t3] : Array Value).toList.zip (#[Value.int y' t4, .int m' t5, .int d' t6] : Array Value).toList, ∃ (n : Int) (t u : Tok), p = (Value.int n t, Value.int n u) := by
  subst h1 h2 h3
  intro p hp
  simp only [List.zip_cons_cons, List.zip_nil_right, List.mem_cons, List.not_mem_nil, or_false] at hp
  rcases hp with rfl | rfl | rfl <;> exact ⟨_, _, _, rfl⟩
theorem zip2 {y d y' d' : Int} {t1 t3 t4 t6 : Tok} (h1 : y = y') (h3 : d = d') : ∀ p ∈ (#[Value.int y t1, .int d t3] : Array Value).toList.zip (#[Value.int y' t4, .int d' t6] : Array Value).toList, ∃ (n : Int) (t u : Tok), p = (Value.int n t, Value.int n u) := by
  subst h1 h3
  intro p hp
  simp only [List.zip_cons_cons, List.zip_nil_right, List.mem_cons, List.not_mem_nil, or_false] at hp
  rcases hp with rfl | rfl <;> exact ⟨_, _, _, rfl⟩
theorem cmp_self {x : UInt64} (h : Float64.isFinite x = true) : Float64.cmp x x = some Ordering.eq := by
  unfold Float64.isFinite at h
  unfold Float64.cmp
  cases e : Float64.decode x with
  | nan => rw [e] at h; simp at h
  | inf a => rw [e] at h; simp at h
  | fin a m k =>
    have : ∀ (p q : Int), p = q → some (compare p q) = some Ordering.eq := fun p q e => by subst e; simp
    exact this _ _ (by simp [Float64.align])
theorem q_ne_ff {x y : UInt64} {n m : Int} {t u : Tok} (hx : x = fq n) (hy : y = fq m) (e : n = m) (hn : n.natAbs < 2 ^ 53) (h : Q (.bool false) s) : wpAny (model prog w) A (compareOp .NotEq (.float x t) (.float y u)) Q E s := by
  subst hx hy e
  refine @Held.out _ (AutoFloatOps.ne_0h ?_)
  have : (Float64.cmp (fq n) (fq n) != some Ordering.eq) = false := by
    rw [cmp_self (finite_fq hn)]
    rfl
  rw [this]
  exact h
end
section
set_option linter.all false
def iso_neh := fun {x0} {x1} {x2} {x3} {x4} {x5} {x6} {x7} {x8} {x9} {x10} {x11} {x12} (x13) (x14) (x15) (x16) (x17) (x18) (x19) => Held.mk (@Mine.iso_ne x0 x1 x2 x3 x4 x5 x6 x7 x8 x9 x10 x11 x12 x13 x14 x15 x16 x17 x18 x19)
def q_ne_ffh := fun {x0} {x1} {x2} {x3} {x4} {x5} {x6} {x7} {x8} {x9} {x10} {x11} (x12) (x13) (x14) (x15) (x16) => Held.mk (@Mine.q_ne_ff x0 x1 x2 x3 x4 x5 x6 x7 x8 x9 x10 x11 x12 x13 x14 x15 x16)
def seq_neh := fun {x0} {x1} {x2} {x3} {x4} {x5} {x6} {x7} {x8} {x9} {x10} {x11} {x12} (x13) (x14) (x15) (x16) (x17) (x18) (x19) => Held.mk (@Mine.seq_ne x0 x1 x2 x3 x4 x5 x6 x7 x8 x9 x10 x11 x12 x13 x14 x15 x16 x17 x18 x19)
end
end
section
open PySem PySem.W PySem.Calls PyProof.Rows PySem.Flt
theorem rs_LR : True := by
  w_top off
  trivial
section
variable {w : World} {mean : ExcName → Option Value} {mg mb : Str → Option Value}
/-- a def that raises -/
structure ConZ (w : World) (mean : ExcName → Option Value) (mg mb : Str → Option Value) (f : Addr) (k : Nat) (vs : List Value) (pre : Prop) (x : String) : Prop where mk ::
  out : ∀ (dp un : Nat) (gd : Option (List Code)) (cn : Str) (cs : Scope) (a : Addr) (ccd : Value) (cl : List (Str × Addr)) (outer : List Env) (A₀ : Around) (base h₀ : Heap) (L : Addr) (m : Str → Option Value) (news : List (Addr × Obj)) (s : Shared) (Q E : Value → Shared → Prop),
    Below A₀ base outer h₀ → Fr h₀ L s.heap m → (hd.heap_39 w.params).In h₀ → News h₀ L s.heap news → Top hd.view_39 lo mean mg mb h₀ → cs.kind = .function →
    dp + k < recursionLimit → un + 8 * k < cLine → pre →
    (∀ (e : Addr) (g h' : Heap) (tk' : Nat), Fr h₀ L g m → RaisedN base (envX cn cs L a ccd cl :: outer) e (.type x) news h' → g.UpToSlots h' → E (.ref e) { s with heap := h', toks := tk' }) →
    wpAny (model Challenge.rw_ad5030_01.row.prog w) (ktrTop dp un gd cn cs L a ccd cl outer) (call (.ref f) vs) Q E s
theorem raised_out {h₀ base g h' : Heap} {L e : Addr} {m : Str → Option Value} {news news' : List (Addr × Obj)} {s : Shared} {E : Value → Shared → Prop} {tk' : Nat} {v : Value} {es : List Env}
    (hret : ∀ (e : Addr) (g h' : Heap) (tk' : Nat), Fr h₀ L g m → RaisedN base es e v news h' → g.UpToSlots h' → E (.ref e) { s with heap := h', toks := tk' })
    (F : Fr h₀ L g m) (R : RaisedN base es e v news' h') (U : g.UpToSlots h') (hs : ∀ p ∈ news, p ∈ news') : E (.ref e) { s with heap := h', toks := tk' } := by
  obtain ⟨B, a0, h1, h2, h3⟩ := R
  exact hret e g h' tk' F ⟨B, a0, h1, fun q hq => h2 q (hs q hq), h3⟩ U
local macro_rules | `(tactic| walk_at "my endZ") => `(tactic| (refine raised_out (by assumption) (by assumption) (by assumption) (by assumption) ?_; walk_at "my sub"))
local macro_rules | `(tactic| walk_at "call type:datetime.date") => `(tactic| (k_here; k_dflt (refine' @Held.out _ (q_date_raiseh ?uA ?uy ?uy2 ?um ?ud ?_); (case uA => rfl); (case uy => omega); (case uy2 => omega); (case um => omega); (case ud => omega)); intro h' tk' e' hx'))
theorem c_fgregR (y m d : Int) (t u v : Tok) : ConZ w mean mg mb 186 1 [.int y t, .int m u, .int d v] ((y < 1 ∨ 9999 < y) ∧ (-100000000 ≤ y ∧ y ≤ 100000000) ∧ (1 ≤ m ∧ m ≤ 12) ∧ 1 ≤ d ∧ d ≤ 31) "ValueError" := by
  refine ConZ.mk ?_
  walk_at "my begin"
  k_steps
  all_goals walk_at "my endZ"
theorem ConZ.use {w : World} {mean : ExcName → Option Value} {mg mb : Str → Option Value} {f : Addr} {k : Nat} {vs : List Value} {pre : Prop} {x : String}
    (C : ConZ w mean mg mb f k vs pre x)
    {dp un : Nat} {gd : Option (List Code)} {cn : Str} {cs : Scope} {a : Addr} {ccd : Value} {cl : List (Str × Addr)} {outer : List Env} {A₀ : Around} {base h₀ : Heap} {L : Addr} {m : Str → Option Value} {news : List (Addr × Obj)} {s : Shared} {Q E : Value → Shared → Prop}
    (B : Below A₀ base outer h₀) (F : Fr h₀ L s.heap m) (X : (hd.heap_39 w.params).In h₀) (N : News h₀ L s.heap news) (T : Top hd.view_39 lo mean mg mb h₀) (hk : cs.kind = .function)
    (hd : dp + k < recursionLimit) (hu : un + 8 * k < cLine) (hp : pre)
    (ret : ∀ (e : Addr) (g h' : Heap) (tk' : Nat), Fr h₀ L g m → RaisedN base (envX cn cs L a ccd cl :: outer) e (.type x) news h' → g.UpToSlots h' → E (.ref e) { s with heap := h', toks := tk' }) :
    wpAny (model Challenge.rw_ad5030_01.row.prog w) (ktrTop dp un gd cn cs L a ccd cl outer) (call (.ref f) vs) Q E s :=
  C.out dp un gd cn cs a ccd cl outer A₀ base h₀ L m news s Q E B F X N T hk hd hu hp ret
abbrev Yout (y m d : Int) : Prop := (y < 1 ∨ 9999 < y) ∧ (-100000000 ≤ y ∧ y ≤ 100000000) ∧ (1 ≤ m ∧ m ≤ 12) ∧ 1 ≤ d ∧ d ≤ 31
theorem year_out {n y m d : Int} (h : GDay n y m d) (hn : n < 1721426 ∨ 5373484 < n) : Yout y m d := by
  have hr := ord_end h
  have l := lp01 y
  obtain ⟨⟨d1, d2, -, -⟩, m1, m2, y1, y2, -⟩ := h
  refine ⟨?_, ⟨by omega, by omega⟩, ⟨m1, m2⟩, d1, d2⟩
  rcases (by omega : y < 1 ∨ 9999 < y ∨ 1 ≤ y ∧ y ≤ 9999) with q | q | q
  · exact Or.inl q
  · exact Or.inr q
  · exfalso
    have : 1721426 ≤ gbeg y := by unfold gbeg; omega
    have st := gbeg_step y
    have : gbeg (y + 1) ≤ 5373485 := by unfold gbeg; omega
    omega
theorem c_from_jdZ (k : Int) (t : Tok) : ConT w mean mg mb 123 4 [.float (fq k) t] (k % 4 = 2 ∧ -7999999990 ≤ k ∧ k ≤ 7999999990 ∧ (k < 4 * 1721426 - 2 ∨ 4 * 5373484 - 2 < k)) (.type "tuple") Yout := by
  refine ConT.mk ?_
  intro dp un gd cn cs a ccd cl' outer A₀ base h₀ L m news s Q E B F X N T hk hd hu hp hret
  exact @Held.out _ (ConT.useh (c_from_jd ((k + 2) / 4) k t) B F X N T hk hd hu (by omega) fun y mo d t1 t2 t3 D h' tk' p => hret y mo d t1 t2 t3 D h' tk' (year_out p (by omega)))
local macro_rules | `(tactic| walk_at "call ref") => `(tactic| (k_here; (with_reducible show wpAny _ _ (call (Value.ref 123) _) _ _ _); k_dflt (refine' @Held.out _ (ConT.useh (c_from_jdZ _ _) ?k1 ?k2 ?k3 ?k4 ?k5 ?kK ?kd ?ku ?kp ?_); (case k1 => k_asm); (case k2 => k_asm); (case k3 => k_asm); (case k4 => k_asm); (case k5 => k_asm); (case kK => first | exact rfl | assumption); (case kd => ktr_room); (case ku => ktr_units); (case kp => first | trivial | assumption | omega)); intro y9 m9 d9 t91 t92 t93 D9 h9 tk9 p9 F9 N9 l9; (try dsimp only at p9); (try dsimp only); (try simp only [AllLt, and_true] at l9)))
local macro_rules | `(tactic| walk_at "call ref") => `(tactic| (k_here; (with_reducible show wpAny _ _ (call (Value.ref 186) _) _ _ _); k_dflt (refine' ConZ.use (c_fgregR _ _ _ _ _ _) ?k1 ?k2 ?k3 ?k4 ?k5 ?kK ?kd ?ku ?kp ?_; (case k1 => k_asm); (case k2 => k_asm); (case k3 => k_asm); (case k4 => k_asm); (case k5 => k_asm); (case kK => first | exact rfl | assumption); (case kd => ktr_room); (case ku => ktr_units); (case kp => first | trivial | assumption | omega)); intro e9 g9 h9 tk9 F9 R9 U9; (try dsimp only at R9 U9 ⊢)))
theorem c_from_isoR (k : Int) (t : Tok) : ConZ w mean mg mb 179 6 [.float (fq k) t] (k % 4 = 2 ∧ -7999999990 ≤ k ∧ k ≤ 7999999990 ∧ (k < 4 * 1721426 - 2 ∨ 4 * 5373484 - 2 < k)) "ValueError" := by
  refine ConZ.mk ?_
  walk_at "my begin"
  k_steps
  all_goals walk_at "my endZ"
end
section
set_option linter.all false
def ConZ.useh := fun {x0} {x1} {x2} {x3} {x4} {x5} {x6} {x7} {x8} (x9) {x10} {x11} {x12} {x13} {x14} {x15} {x16} {x17} {x18} {x19} {x20} {x21} {x22} {x23} {x24} {x25} {x26} {x27} (x28) (x29) (x30) (x31) (x32) (x33) (x34) (x35) (x36) (x37) => Held.mk (@Mine.ConZ.use x0 x1 x2 x3 x4 x5 x6 x7 x8 x9 x10 x11 x12 x13 x14 x15 x16 x17 x18 x19 x20 x21 x22 x23 x24 x25 x26 x27 x28 x29 x30 x31 x32 x33 x34 x35 x36 x37)
end
end
section
open PySem PySem.W PySem.Calls PyProof.Rows PySem.Flt
theorem rs_LP : True := by
  w_top off
  trivial
/-- the locals in the halving -/
abbrev stepM (mm : Str → Option Value) (low : Int) (u : Tok) (so : Option Value) : Str → Option Value := fun y => if y = Str.ofString "low" then some (.int low u) else if y = Str.ofString "step" then so else mm y
def pw : List (Int × Tok) → Int
  | [] => 1
  | p :: _ => 2 * p.1
def StepsOk : List (Int × Tok) → Prop
  | [] => True
  | p :: r => (1 ≤ p.1 ∧ p.1 ≤ 256 ∧ pw r = p.1) ∧ StepsOk r
/-- a step of the halving is done -/
def StepEnd (h₀ : Heap) (L I : Addr) (oI : Obj) (news : List (Addr × Obj)) (mm : Str → Option Value) (N b st low : Int) (s : Shared) (f : Flow) (s' : Shared) : Prop :=
  f = .next ∧ ∃ (low' : Int) (u : Tok) (so : Option Value) (h' : Heap) (tk : Nat), s' = { s with heap := h', toks := tk } ∧ b ≤ low' ∧ (low' = low + st ∧ low + st < N ∨ low' = low ∧ N ≤ low + st) ∧
    Fr h₀ L h' (stepM mm low' u so) ∧ News h₀ L h' ((I, oI) :: news)
def PassEnd (h₀ : Heap) (L I : Addr) (oI : Obj) (news : List (Addr × Obj)) (D : Addr) (s : Shared) (f : Flow) (s' : Shared) : Prop :=
  f = .next ∧ ∃ (m' : Str → Option Value) (h' : Heap) (tk : Nat), s' = { s with heap := h', toks := tk } ∧ m' (Str.ofString "head") = some (.ref D) ∧ Fr h₀ L h' m' ∧ News h₀ L h' ((I, oI) :: news)
section
variable {prog : Program} {w : World} {A : Around} {E : Value → Shared → Prop} {s : Shared} {h₀ : Heap} {env : Env} {tgt : Expr} {body : List Stmt} {Q : Flow → Shared → Prop} {I ax : Addr} {lo : Obj} {news : List (Addr × Obj)} {mm : Str → Option Value} {N b : Int}
theorem steps_rest (hlt : ∀ p ∈ news, p.1 < I) (hk : (ax, lo) ∈ news)
    (H : ∀ (st low : Int) (t u : Tok) (so : Option Value) (oI : Obj) (h : Heap) (tk : Nat), 1 ≤ st → st ≤ 256 → b ≤ low → low < N → N ≤ low + 2 * st → oI.cls = .type "list_iterator" → Fr h₀ env.locals h (stepM mm low u so) → News h₀ env.locals h ((I, oI) :: news) →
      wpAny (model prog w) A (assign tgt env (.int st t)) (fun _ s₂ => wpAny (model prog w) A (execs body env) (StepEnd h₀ env.locals I oI news mm N b st low s) E s₂) E { s with heap := h, toks := tk })
    (done : ∀ h tk u so, Fr h₀ env.locals h (stepM mm (N - 1) u so) → News h₀ env.locals h news → Q .next { s with heap := h, toks := tk }) :
    ∀ (l : List (Int × Tok)) (low : Int) (u : Tok) (so : Option Value), StepsOk l → b ≤ low → low < N → N ≤ low + pw l →
      ItemsRest prog w A E h₀ env tgt body Q s [(I, "list_iterator")] [(ax, lo)] (l.map fun p => Itm.val (.int p.1 p.2)) (stepM mm low u so) news
  | [], low, u, so, _, _, h1, h2 => by
    have e : low = N - 1 := by simp only [pw] at h2; omega
    subst e
    exact ItemsRest.zero fun h tk F N' => done h tk u so F N'
  | (st, t) :: r, low, u, so, ok, hb, h1, h2 => by
    refine ItemsRest.val fun h tk F => AllObj.cons fun oI hc => AllObj.nil fun N' => ?_
    obtain ⟨⟨o1, o2, o3⟩, o4⟩ := ok
    refine wpAny_mono (H st low t u so oI h tk o1 o2 hb h1 (by simpa [pw] using h2) hc F N') (fun _ s₂ h₂ => wpAny_mono h₂ (fun f s' hS => ?_) fun _ _ x => x) fun _ _ x => x
    obtain ⟨rfl, low', u', so', h', tk', rfl, hb', hd, F', N''⟩ := hS
    refine ⟨h', tk', stepM mm low' u' so', news, rfl, F', N'', fun p hp q hq e => ?_, And.intro hk trivial, steps_rest hlt hk H done r low' u' so' o4 hb' ?_ ?_⟩
    · have h3 : @LT.lt Nat _ p.1 I := hlt p hp
      rw [List.mem_singleton.mp hq] at e
      exact absurd h3 (e ▸ Nat.lt_irrefl _)
    · dsimp only at o1 o2 o3 ⊢
      omega
    · simp only [pw] at h2
      dsimp only at o1 o2 o3 ⊢
      rw [o3]
      omega
theorem steps9 {low : Int} {u t1 t2 t3 t4 t5 t6 t7 t8 t9 : Tok} (hlt : ∀ p ∈ news, p.1 < I) (hk : (ax, lo) ∈ news) (hb : b ≤ low) (h1 : low < N) (h2 : N ≤ low + 512)
    (H : ∀ (st low : Int) (t u : Tok) (so : Option Value) (oI : Obj) (h : Heap) (tk : Nat), 1 ≤ st → st ≤ 256 → b ≤ low → low < N → N ≤ low + 2 * st → oI.cls = .type "list_iterator" → Fr h₀ env.locals h (stepM mm low u so) → News h₀ env.locals h ((I, oI) :: news) →
      wpAny (model prog w) A (assign tgt env (.int st t)) (fun _ s₂ => wpAny (model prog w) A (execs body env) (StepEnd h₀ env.locals I oI news mm N b st low s) E s₂) E { s with heap := h, toks := tk })
    (done : ∀ h tk u so, Fr h₀ env.locals h (stepM mm (N - 1) u so) → News h₀ env.locals h news → Q .next { s with heap := h, toks := tk }) :
    ItemsRest prog w A E h₀ env tgt body Q s [(I, "list_iterator")] [(ax, lo)] [.val (.int 256 t1), .val (.int 128 t2), .val (.int 64 t3), .val (.int 32 t4), .val (.int 16 t5), .val (.int 8 t6), .val (.int 4 t7), .val (.int 2 t8), .val (.int 1 t9)]
      (fun y => if y = Str.ofString "low" then some (.int low u) else mm y) news := by
  have e : (fun y => if y = Str.ofString "low" then some (Value.int low u) else mm y) = stepM mm low u (mm (Str.ofString "step")) := by
    funext y
    dsimp only [stepM]
    split
    · rfl
    · split
      · rename_i q; rw [q]
      · rfl
  rw [e]
  exact steps_rest hlt hk H done [(256, t1), (128, t2), (64, t3), (32, t4), (16, t5), (8, t6), (4, t7), (2, t8), (1, t9)] low u _ (by simp [StepsOk, pw]) hb h1 (by simpa [pw] using h2)
theorem step_yes {h' : Heap} {L : Addr} {oI : Obj} {st low low' : Int} {u u' : Tok} {so so' : Option Value} {tk : Nat} {news' : List (Addr × Obj)} (F : Fr h₀ L h' (fun y => if y = Str.ofString "low" then some (.int low' u') else if y = Str.ofString "step" then so' else stepM mm low u so y))
    (N' : News h₀ L h' news') (hs : ∀ p ∈ (I, oI) :: news, p ∈ news') (e : low' = low + st) (hb : b ≤ low + st) (hn : low + st < N) : StepEnd h₀ L I oI news mm N b st low s .next { s with heap := h', toks := tk } := by
  subst e
  refine ⟨rfl, _, u', so', h', tk, rfl, hb, Or.inl ⟨rfl, hn⟩, ?_, cb_drop N' hs⟩
  have e : (fun y => if y = Str.ofString "low" then some (Value.int (low + st) u') else if y = Str.ofString "step" then so' else stepM mm low u so y) = stepM mm (low + st) u' so' := by
    funext y
    dsimp only [stepM]
    split
    · rfl
    · split
      · rfl
      · rfl
  exact e ▸ F
theorem step_no {h' : Heap} {L : Addr} {oI : Obj} {st low : Int} {u : Tok} {so so' : Option Value} {tk : Nat} {news' : List (Addr × Obj)} (F : Fr h₀ L h' (fun y => if y = Str.ofString "step" then so' else stepM mm low u so y))
    (N' : News h₀ L h' news') (hs : ∀ p ∈ (I, oI) :: news, p ∈ news') (hb : b ≤ low) (hn : N ≤ low + st) : StepEnd h₀ L I oI news mm N b st low s .next { s with heap := h', toks := tk } := by
  refine ⟨rfl, low, u, so', h', tk, rfl, hb, Or.inr ⟨rfl, hn⟩, ?_, cb_drop N' hs⟩
  have e : (fun y => if y = Str.ofString "step" then so' else stepM mm low u so y) = stepM mm low u so' := by
    funext y
    dsimp only [stepM]
    by_cases h1 : y = Str.ofString "step"
    · subst h1
      rw [if_pos rfl, if_neg (by decide), if_pos rfl]
    · simp only [h1, if_false]
  exact e ▸ F
theorem pass2 {D : Addr} {t1 t2 : Tok} {m : Str → Option Value} (hlt : ∀ p ∈ news, p.1 < I) (hk : (ax, lo) ∈ news) (hm : m (Str.ofString "head") = some (.ref D))
    (H : ∀ (p : Int) (t : Tok) (m₀ : Str → Option Value) (oI : Obj) (h : Heap) (tk : Nat), p = 0 ∨ p = 3 → oI.cls = .type "list_iterator" → Fr h₀ env.locals h (fun y => if y = Str.ofString "head" then some (.ref D) else m₀ y) → News h₀ env.locals h ((I, oI) :: news) →
      wpAny (model prog w) A (assign tgt env (.int p t)) (fun _ s₂ => wpAny (model prog w) A (execs body env) (PassEnd h₀ env.locals I oI news D s) E s₂) E { s with heap := h, toks := tk })
    (done : ∀ h tk m', Fr h₀ env.locals h m' → News h₀ env.locals h news → Q .next { s with heap := h, toks := tk }) :
    ItemsRest prog w A E h₀ env tgt body Q s [(I, "list_iterator")] [(ax, lo)] [.val (.int 0 t1), .val (.int 3 t2)] m news := by
  have key : ∀ (p : Int) (t : Tok) (m₁ : Str → Option Value) (r : List Itm), p = 0 ∨ p = 3 → m₁ (Str.ofString "head") = some (.ref D) →
      (∀ m', m' (Str.ofString "head") = some (.ref D) → ItemsRest prog w A E h₀ env tgt body Q s [(I, "list_iterator")] [(ax, lo)] r m' news) →
      ItemsRest prog w A E h₀ env tgt body Q s [(I, "list_iterator")] [(ax, lo)] (.val (.int p t) :: r) m₁ news := by
    intro p t m₁ r hp hm₁ hr
    refine ItemsRest.val fun h tk F => AllObj.cons fun oI hc => AllObj.nil fun N' => ?_
    have e : m₁ = fun y => if y = Str.ofString "head" then some (.ref D) else m₁ y := by
      funext y
      by_cases q : y = Str.ofString "head"
      · rw [if_pos q, q, hm₁]
      · rw [if_neg q]
    refine wpAny_mono (H p t m₁ oI h tk hp hc (e ▸ F) N') (fun _ s₂ h₂ => wpAny_mono h₂ (fun f s' hS => ?_) fun _ _ x => x) fun _ _ x => x
    obtain ⟨rfl, m', h', tk', rfl, hm', F', N''⟩ := hS
    refine ⟨h', tk', m', news, rfl, F', N'', fun p hp q hq e => ?_, And.intro hk trivial, hr m' hm'⟩
    have h3 : @LT.lt Nat _ p.1 I := hlt p hp
    rw [List.mem_singleton.mp hq] at e
    exact absurd h3 (e ▸ Nat.lt_irrefl _)
  exact key 0 t1 m _ (Or.inl rfl) hm fun m' hm' => key 3 t2 m' _ (Or.inr rfl) hm' fun m'' _ => ItemsRest.zero fun h tk F N' => done h tk m'' F N'
theorem pass_end {h' : Heap} {L D : Addr} {oI : Obj} {m' : Str → Option Value} {tk : Nat} {news' : List (Addr × Obj)} (F : Fr h₀ L h' m') (N' : News h₀ L h' news') (hs : ∀ p ∈ (I, oI) :: news, p ∈ news') (hm : m' (Str.ofString "head") = some (.ref D)) :
    PassEnd h₀ L I oI news D s .next { s with heap := h', toks := tk } := ⟨rfl, m', h', tk, rfl, hm, F, cb_drop N' hs⟩
end
end
section
open PySem PySem.W PySem.Calls PyProof.Rows PySem.Flt
theorem rs_LV : True := by
  w_top off
  trivial
section
variable {w : World} {mean : ExcName → Option Value} {mg mb : Str → Option Value}
theorem lroom {k y : Int} (hk : 0 ≤ k ∧ k ≤ 6) (hy : -1000000 ≤ y ∧ y ≤ 1010000) : (-400000000 ≤ lbeg k y ∧ lbeg k y ≤ 400000000) ∧ (k = 6 ∧ 2 ≤ y ∧ y ≤ 9997 → 1721788 ≤ lbeg k y ∧ lbeg k y ≤ 5372393) := by
  have w := wbeg_near y
  rcases seven hk with h | h | h | h | h | h | h <;> subst h
  · rw [lbeg0]; unfold gbeg; omega
  · rw [lbeg1]; unfold jbeg; omega
  · rw [lbeg2]; unfold ibeg; omega
  · rw [lbeg3]; unfold cbeg; omega
  · rw [lbeg4]; unfold nbeg gbeg; omega
  · rw [lbeg5]; unfold gbeg; omega
  · rw [lbeg6]
    have g : 2 ≤ y ∧ y ≤ 9997 → 1721791 ≤ gbeg y ∧ gbeg y ≤ 5372390 := by unfold gbeg; omega
    have g2 : -370000000 ≤ gbeg y ∧ gbeg y ≤ 380000000 := by unfold gbeg; omega
    omega
theorem c_beginR (k y : Int) (u t : Tok) : Con w mean mg mb 290 2 [.int k u, .int y t] ((0 ≤ k ∧ k ≤ 6) ∧ -1000000 ≤ y ∧ y ≤ 1010000) mkI (fun x => x = lbeg k y ∧ ((-400000000 ≤ x ∧ x ≤ 400000000) ∧ (k = 6 ∧ 2 ≤ y ∧ y ≤ 9997 → 1721788 ≤ x ∧ x ≤ 5372393))) := by
  refine Con.mk ?_
  intro dp un gd cn cs a ccd cl outer A₀ base h₀ L m news s Q E B F X N T hk hd hu hp hret
  refine @Held.out _ (Con.useh (c_begin k y u t) B F X N T hk hd hu ⟨hp.1, by omega⟩ fun x t h' tk' p => hret x t h' tk' ⟨p, ?_⟩)
  have := lroom hp.1 hp.2
  rw [p]
  exact this
abbrev NxtR (k Y M D y m d n : Int) : Prop := Nxt k Y M D y m d n ∧ (lbeg k Y ≤ n ∧ n ≤ lbeg k Y + 371 ∧ Y ≤ y ∧ y ≤ Y + 1) ∧ (-400000000 ≤ n ∧ n ≤ 400000371) ∧ (k = 6 ∧ 2 ≤ Y ∧ Y ≤ 9997 → 1721788 ≤ n ∧ n ≤ 5372764)
theorem c_nextR (k y m d : Int) (t1 t2 t3 t4 : Tok) : ConX w mean mg mb 304 5 [.int k t1, .int y t2, .int m t3, .int d t4] ((0 ≤ k ∧ k ≤ 6) ∧ (-1000000 ≤ y ∧ y ≤ 1010000) ∧ -1000 ≤ m ∧ m ≤ 1000) (NxtR k y m d) := by
  refine ConX.mk ?_
  intro dp un gd cn cs a ccd cl outer A₀ base h₀ L mm news s Q E B F X N T hk hd hu hp hret
  refine @Held.out _ (ConX.useh (c_next k y m d t1 t2 t3 t4) B F X N T hk hd hu ⟨hp.1, by omega⟩ fun y' m' d' n t1 t2 t3 t4 D D2 h' tk' p => hret y' m' d' n t1 t2 t3 t4 D D2 h' tk' ⟨p, ?_⟩)
  have r := p.room hp.1
  have := lroom hp.1 hp.2.1
  refine ⟨by omega, by omega, by omega⟩
theorem c_date5k (k n : Int) (t u : Tok) : ConP w mean mg mb 278 8 [.int k u, .int n t] (k = 5 ∧ -1800000000 ≤ n ∧ n ≤ 1800000000) (.type "tuple") (fun y d => LDay k n y 1 d) := by
  refine ConP.mk ?_
  intro dp un gd cn cs a ccd cl outer A₀ base h₀ L mm news s Q E B F X N T hk hd hu hp hret
  obtain ⟨rfl, hp⟩ := hp
  exact @Held.out _ (ConP.useh (c_date5 n t u) B F X N T hk hd hu hp hret)
theorem c_date6k (k n : Int) (t u : Tok) : ConT w mean mg mb 278 8 [.int k u, .int n t] (k = 6 ∧ 1721426 ≤ n ∧ n ≤ 5373484) (.type "datetime.IsoCalendarDate") (LDay k n) := by
  refine ConT.mk ?_
  intro dp un gd cn cs a ccd cl outer A₀ base h₀ L mm news s Q E B F X N T hk hd hu hp hret
  obtain ⟨rfl, hp⟩ := hp
  exact @Held.out _ (ConT.useh (c_date6 n t u) B F X N T hk hd hu hp hret)
theorem c_day5k (k N y d : Int) (D : Addr) (u t1 t3 : Tok) : ConO w mean mg mb 285 8 [.int k u, .ref D] (D, ({ cls := .type "tuple", data := .seq #[.int y t1, .int d t3] } : Obj)) (k = 5 ∧ (-5000000 ≤ y ∧ y ≤ 5000000) ∧ LDay k N y 1 d) mkF (fun r => r = 4 * N - 2) := by
  refine ConO.mk ?_
  intro dp un gd cn cs a ccd cl outer A₀ base h₀ L mm news s Q E B F X N' T hk hd hu hp hret
  obtain ⟨rfl, hp⟩ := hp
  exact (c_day5 N y d D u t1 t3).out dp un gd cn cs a ccd cl outer A₀ base h₀ L mm news s Q E B F X N' T hk hd hu hp hret
theorem c_day6k (k N y m d : Int) (D : Addr) (u t1 t2 t3 : Tok) : ConO w mean mg mb 285 8 [.int k u, .ref D] (D, ({ cls := .type "tuple", data := .seq #[.int y t1, .int m t2, .int d t3] } : Obj)) (k = 6 ∧ (0 ≤ y ∧ y ≤ 20000) ∧ LDay k N y m d) mkF (fun r => r = 4 * N - 2) := by
  refine ConO.mk ?_
  intro dp un gd cn cs a ccd cl outer A₀ base h₀ L mm news s Q E B F X N' T hk hd hu hp hret
  obtain ⟨rfl, hp⟩ := hp
  exact (c_day6 N y m d D u t1 t2 t3).out dp un gd cn cs a ccd cl outer A₀ base h₀ L mm news s Q E B F X N' T hk hd hu hp hret
local macro_rules | `(tactic| walk_at "exec For Tuple Call cons nil") => `(tactic| (k_here; (rename Fr _ _ _ _ => lF'); (with_unfolding_all refine' For_turns lF' ?_; k_whole)))
local macro_rules | `(tactic| walk_at "call type:zip") => `(tactic| (k_here; (rename Fr _ _ _ _ => lF'); (rename News _ _ _ _ => lN'); (with_unfolding_all refine' @Held.out _ (zt_turnsh ?h0 lF' lN' ?m1 ?c1 ?d1 ?m2 ?c2 ?d2 ?sz ?_); (case h0 => rfl); (case m1 => k_mem); (case m2 => k_mem); (case c1 => assumption); (case c2 => exact Or.inl rfl); (case d1 => rfl); (case d2 => rfl); (case sz => rfl)); clear lF'; intro i' l1; (try dsimp only [List.toArray, zipItems])))
local macro_rules | `(tactic| walk_at "UnrEndW") => `(tactic| (refine' zt_endW (by assumption) (by assumption) ?S ?H ?_; (case S => exact fun _ h => h); (case H => assumption); (refine And.intro (by k_subL) ?_)))
theorem c_earl2 (D D2 : Addr) (y d Y O : Int) (t1 t3 t4 t6 : Tok) : ConQ w mean mg mb 311 2 [.ref D, .ref D2] (D, ({ cls := .type "tuple", data := .seq #[.int y t1, .int d t3] } : Obj)) (D2, ({ cls := .type "tuple", data := .seq #[.int Y t4, .int O t6] } : Obj)) ((Value.type "tuple") = .type "tuple" ∨ (Value.type "tuple") = .type "datetime.IsoCalendarDate") mkB (fun b => match b with | true => Lex y 1 d Y 1 O | false => ¬ Lex y 1 d Y 1 O) := by
  refine ConQ.mk ?_
  walk_at "my begin"
  k_steps
  all_goals walk_at "my endB"
theorem q_item {prog : Program} {A : Around} {E : Value → Shared → Prop} {s : Shared} {value slice : PySem.Expr} {l : Addr} {vs : List Value} {ns : List Int} {k : Int} {u : Tok} {Q : Value → Shared → Prop} (hl : s.heap.IsList l vs.toArray) (hi : IntsAre vs ns)
    (h0 : 0 ≤ k) (h1 : k < ns.length) (hfit : k < 2 ^ 63) (h : ∀ (c : Int) t, Q (.int c t) s)
    (hs : subscripted slice false (.ref l) (.int k u) = operate [.ref l, .int k u] (getItem (.ref l) (.int k u)) := by with_unfolding_all rfl) :
    wpAny (model prog w) A (subscriptTail value slice (.ref l) (.int k u)) Q E s := item_anyK hl hi h0 h1 hfit (fun t => h _ t) hs
theorem q_ne_bb {prog : Program} {A : Around} {E : Value → Shared → Prop} {s : Shared} {a b : Bool} {Q : Value → Shared → Prop} (e : a = b) (h : Q (.bool false) s) : wpAny (model prog w) A (compareOp .NotEq (.bool a) (.bool b)) Q E s := by
  subst e
  exact @Held.out _ (ne_boolh (by simpa using h))
end
section
set_option linter.all false
def q_itemh := fun {x0} {x1} {x2} {x3} {x4} {x5} {x6} {x7} {x8} {x9} {x10} {x11} {x12} (x13) (x14) (x15) (x16) (x17) (x18) (x19) => Held.mk (@Mine.q_item x0 x1 x2 x3 x4 x5 x6 x7 x8 x9 x10 x11 x12 x13 x14 x15 x16 x17 x18 x19)
def q_ne_bbh := fun {x0} {x1} {x2} {x3} {x4} {x5} {x6} {x7} (x8) (x9) => Held.mk (@Mine.q_ne_bb x0 x1 x2 x3 x4 x5 x6 x7 x8 x9)
end
end
section
open PySem PySem.W PySem.Calls PyProof.Rows PySem.Flt
theorem rs_LW : True := by
  w_top off
  trivial
section
variable {w : World} {mean : ExcName → Option Value} {mg mb : Str → Option Value}
/-- a call with nothing handed over -/
theorem cwK0 {M : Model} {A : Around} {E Q : Value → Shared → Prop} {s : Shared} {K : Frag} {h₀ : Heap} {L : Addr} {m : Str → Option Value} {f : Value} {first : List Value} {env : Env} {pos : Pos} (X : K.In h₀) (F : Fr h₀ L s.heap m) (hk : keepIn K f = true) (h : wpAny M A (call f (first ++ [])) Q E s) :
    Held (wpAny M A (callWith pos f first (backTo pos (starEach [] env)) []) Q E s) := ⟨callWith_K0 (Frag.In.keeps X F.keep) hk h⟩
theorem zip3n {k Y M D y m d N a b c : Int} {t1 t2 t3 t4 t5 t6 : Tok} (g : Nxt k Y M D y m d N) (h : LDay k N a b c) (hk : 0 ≤ k ∧ k ≤ 6) : ∀ p ∈ (#[Value.int a t1, .int b t2, .int c t3] : Array Value).toList.zip (#[Value.int y t4, .int m t5, .int d t6] : Array Value).toList, ∃ (n : Int) (t u : Tok), p = (Value.int n t, Value.int n u) :=
  zip3 (g.same hk h).1 (g.same hk h).2.1 (g.same hk h).2.2
theorem zip2n {k Y M D y m d N a b c : Int} {t1 t3 t4 t6 : Tok} (g : Nxt k Y M D y m d N) (h : LDay k N a b c) (hk : 0 ≤ k ∧ k ≤ 6) : ∀ p ∈ (#[Value.int a t1, .int c t3] : Array Value).toList.zip (#[Value.int y t4, .int d t6] : Array Value).toList, ∃ (n : Int) (t u : Tok), p = (Value.int n t, Value.int n u) :=
  zip2 (g.same hk h).1 (g.same hk h).2.2
theorem lexT {k Y M D y m d N a b c n : Int} (g : Nxt k Y M D y m d N) (h : LDay k n a b c) (p : Lex a b c Y M D) (hk : 0 ≤ k ∧ k ≤ 6) : true = decide (n < N) := (decide_eq_true ((g.lex hk h).mp p)).symm
theorem lexF {k Y M D y m d N a b c n : Int} (g : Nxt k Y M D y m d N) (h : LDay k n a b c) (p : ¬ Lex a b c Y M D) (hk : 0 ≤ k ∧ k ≤ 6) : false = decide (n < N) := (decide_eq_false (mt (g.lex hk h).mpr p)).symm
theorem lexlt {k Y M D y m d N a b c n : Int} (g : Nxt k Y M D y m d N) (h : LDay k n a b c) (p : Lex a b c Y M D) (hk : 0 ≤ k ∧ k ≤ 6) : n < N := (g.lex hk h).mp p
theorem lexge {k Y M D y m d N a b c n : Int} (g : Nxt k Y M D y m d N) (h : LDay k n a b c) (p : ¬ Lex a b c Y M D) (hk : 0 ≤ k ∧ k ≤ 6) : N ≤ n := Int.not_lt.mp (mt (g.lex hk h).mpr p)
theorem steps9' {prog : Program} {w : World} {A : Around} {E : Value → Shared → Prop} {s : Shared} {h₀ : Heap} {env : Env} {tgt : Expr} {body : List Stmt} {Q : Flow → Shared → Prop} {I ax : Addr} {lo : Obj} {news : List (Addr × Obj)} {mm : Str → Option Value} {N k Y M D y m d : Int} {low : Int} {u t1 t2 t3 t4 t5 t6 t7 t8 t9 : Tok}
    (g0 : Nxt k Y M D y m d N) (hlt : ∀ p ∈ news, p.1 < I) (hk : (ax, lo) ∈ news) (hb : lbeg k Y - 2 ≤ low) (h1 : low < N) (h2 : N ≤ low + 512)
    (H : ∀ (st low : Int) (t u : Tok) (so : Option Value) (oI : Obj) (h : Heap) (tk : Nat), 1 ≤ st → st ≤ 256 → lbeg k Y - 2 ≤ low → low < N → N ≤ low + 2 * st → oI.cls = .type "list_iterator" → Fr h₀ env.locals h (stepM mm low u so) → News h₀ env.locals h ((I, oI) :: news) →
      wpAny (model prog w) A (assign tgt env (.int st t)) (fun _ s₂ => wpAny (model prog w) A (execs body env) (StepEnd h₀ env.locals I oI news mm N (lbeg k Y - 2) st low s) E s₂) E { s with heap := h, toks := tk })
    (done : ∀ h tk u so, Fr h₀ env.locals h (stepM mm (N - 1) u so) → News h₀ env.locals h news → Q .next { s with heap := h, toks := tk }) :
    ItemsRest prog w A E h₀ env tgt body Q s [(I, "list_iterator")] [(ax, lo)] [.val (.int 256 t1), .val (.int 128 t2), .val (.int 64 t3), .val (.int 32 t4), .val (.int 16 t5), .val (.int 8 t6), .val (.int 4 t7), .val (.int 2 t8), .val (.int 1 t9)]
      (fun y => if y = Str.ofString "low" then some (.int low u) else mm y) news := steps9 hlt hk hb h1 h2 H done
theorem Nxt.day5 {k Y M D y m d N : Int} (hk : k = 5) (h : Nxt k Y M D y m d N) : LDay k N y 1 d := by
  subst hk
  have q := h.day ⟨by omega, by omega⟩
  have := (o_back q).1
  subst this
  exact q
theorem headlen {w : List Int} {c : Int} (hc : c = ((List.take 6 w).length : Int)) : (List.take 6 w ++ List.drop c.toNat [0, 3, 32, 2, 13, 32]).length = 6 := by
  have : (List.take 6 w).length ≤ 6 := by rw [List.length_take]; omega
  rw [List.length_append, List.length_drop, hc]
  simp only [Int.toNat_natCast, List.length_cons, List.length_nil]
  omega
local macro_rules | `(tactic| walk_at "call ref") => `(tactic| (k_here; (with_reducible show wpAny _ _ (call (Value.ref 243) _) _ _ _); (refine wpAny_call ?_); k_dflt (refine' code_def ?k1 ?k2 ?k3 ?k4 ?k5 ?kA ?kF ?kK ?k6 ?k7 ?k8 ?k9 ?kB ?_ ?c2 ?c3 ?c4 ?c5; (case kA => exact rfl); (case kF => exact rfl); (case kK => first | exact rfl | assumption); (case k1 => k_asm); (case k2 => k_asm); (case k3 => k_asm); (case k4 => k_asm); (case k5 => k_asm); (case k6 => k_is); (case k7 => k_is); (case k8 => ktr_room); (case k9 => exact BindsTo.of_eq rfl); (case c5 => decide); (case kB => exact locs rfl); (case c2 => exact rfl); (case c3 => exact rfl); (case c4 => exact rfl); k_whole; intro g' L' h' FG' F' N' B' X' T'; (try dsimp only); (try k_lift B'); (try k_fold))))
local macro_rules | `(tactic| walk_at "call ref") => `(tactic| (k_here; (with_reducible show wpAny _ _ (call (Value.ref 250) _) _ _ _); (refine wpAny_call ?_); k_dflt (refine' code_def ?k1 ?k2 ?k3 ?k4 ?k5 ?kA ?kF ?kK ?k6 ?k7 ?k8 ?k9 ?kB ?_ ?c2 ?c3 ?c4 ?c5; (case kA => exact rfl); (case kF => exact rfl); (case kK => first | exact rfl | assumption); (case k1 => k_asm); (case k2 => k_asm); (case k3 => k_asm); (case k4 => k_asm); (case k5 => k_asm); (case k6 => k_is); (case k7 => k_is); (case k8 => ktr_room); (case k9 => exact BindsTo.of_eq rfl); (case c5 => decide); (case kB => exact locs rfl); (case c2 => exact rfl); (case c3 => exact rfl); (case c4 => exact rfl); k_whole; intro g' L' h' FG' F' N' B' X' T'; (try dsimp only); (try k_lift B'); (try k_fold))))
local macro_rules | `(tactic| walk_at "my walk") => `(tactic| k_steps)
local macro_rules | `(tactic| walk_at "callWith ref") => `(tactic| (k_here; (with_reducible show wpAny _ _ (callWith _ _ _ (backTo _ (starEach [] _)) []) _ _ _); k_dflt (refine' @Held.out _ (cwK0 ?uk1 ?uk2 ?uk3 ?_)); (case uk1 => k_asm); (case uk2 => k_asm); (case uk3 => k_dflt k_is); k_whole))
local macro_rules | `(tactic| walk_at "noteFrame ref") => `(tactic| (k_here; (rename RaisedN _ _ _ _ _ _ => rkX); first | (k_dflt k_caughtN0; intro h' F' N'; (try k_sweep)) | (k_dflt k_caughtNB; intro h' tk' F' N'; (try k_sweep))))
local macro_rules | `(tactic| walk_at "call ref") => `(tactic| (k_here; (with_reducible show wpAny _ _ (call (Value.ref 290) _) _ _ _); k_dflt (refine' @Held.out _ (Con.useh (c_beginR _ _ _ _) ?k1 ?k2 ?k3 ?k4 ?k5 ?kK ?kd ?ku ?kp ?_); (case kp => first | exact True.intro | assumption | omega); (case k1 => k_asm); (case k2 => k_asm); (case k3 => k_asm); (case k4 => k_asm); (case k5 => k_asm); (case kK => first | exact rfl | assumption); (case kd => ktr_room); (case ku => ktr_units)); intro x9 t9 h9 tk9 p9 F9 N9; (try dsimp only at p9); (try dsimp only)))
local macro_rules | `(tactic| walk_at "call ref") => `(tactic| (k_here; (with_reducible show wpAny _ _ (call (Value.ref 271) _) _ _ _); k_dflt (refine' @Held.out _ (Con.useh (c_kept _ _ _ _) ?k1 ?k2 ?k3 ?k4 ?k5 ?kK ?kd ?ku ?kp ?_); (case kp => first | exact True.intro | assumption | omega); (case k1 => k_asm); (case k2 => k_asm); (case k3 => k_asm); (case k4 => k_asm); (case k5 => k_asm); (case kK => first | exact rfl | assumption); (case kd => ktr_room); (case ku => ktr_units)); intro x9 t9 h9 tk9 p9 F9 N9; (try dsimp only at p9); (try dsimp only)))
local macro_rules | `(tactic| walk_at "call ref") => `(tactic| (k_here; (with_reducible show wpAny _ _ (call (Value.ref 304) _) _ _ _); k_dflt (refine' @Held.out _ (ConX.useh (c_nextR _ _ _ _ _ _ _ _) ?k1 ?k2 ?k3 ?k4 ?k5 ?kK ?kd ?ku ?kp ?_); (case kp => first | exact True.intro | assumption | omega); (case k1 => k_asm); (case k2 => k_asm); (case k3 => k_asm); (case k4 => k_asm); (case k5 => k_asm); (case kK => first | exact rfl | assumption); (case kd => ktr_room); (case ku => ktr_units)); intro y9 m9 d9 n9 t91 t92 t93 t94 D9 D92 h9 tk9 ⟨g9, r9, b9, i9⟩ F9 N9 l9 l92 l93; (try simp only [AllLt, and_true] at l9 l92); (try dsimp only)))
local macro_rules | `(tactic| walk_at "call ref") => `(tactic| (k_here; (with_reducible show wpAny _ _ (call (Value.ref 278) _) _ _ _); k_dflt (refine' @Held.out _ (ConT.useh (c_date3 _ _ _ _) ?k1 ?k2 ?k3 ?k4 ?k5 ?kK ?kd ?ku ?kp ?_); (case kp => first | exact True.intro | assumption | omega); (case k1 => k_asm); (case k2 => k_asm); (case k3 => k_asm); (case k4 => k_asm); (case k5 => k_asm); (case kK => first | exact rfl | assumption); (case kd => ktr_room); (case ku => ktr_units)); intro y9 m9 d9 t91 t92 t93 D9 h9 tk9 p9 F9 N9 l9; (try dsimp only at p9); (try dsimp only); (try simp only [AllLt, and_true] at l9)))
local macro_rules | `(tactic| walk_at "call ref") => `(tactic| (k_here; (with_reducible show wpAny _ _ (call (Value.ref 278) _) _ _ _); k_dflt (refine' @Held.out _ (ConP.useh (c_date5k _ _ _ _) ?k1 ?k2 ?k3 ?k4 ?k5 ?kK ?kd ?ku ?kp ?_); (case kp => first | exact True.intro | assumption | omega); (case k1 => k_asm); (case k2 => k_asm); (case k3 => k_asm); (case k4 => k_asm); (case k5 => k_asm); (case kK => first | exact rfl | assumption); (case kd => ktr_room); (case ku => ktr_units)); intro y9 d9 t91 t93 D9 h9 tk9 p9 F9 N9 l9; (try dsimp only at p9); (try dsimp only); (try simp only [AllLt, and_true] at l9)))
local macro_rules | `(tactic| walk_at "call ref") => `(tactic| (k_here; (with_reducible show wpAny _ _ (call (Value.ref 278) _) _ _ _); k_dflt (refine' @Held.out _ (ConT.useh (c_date6k _ _ _ _) ?k1 ?k2 ?k3 ?k4 ?k5 ?kK ?kd ?ku ?kp ?_); (case kp => first | exact True.intro | assumption | omega); (case k1 => k_asm); (case k2 => k_asm); (case k3 => k_asm); (case k4 => k_asm); (case k5 => k_asm); (case kK => first | exact rfl | assumption); (case kd => ktr_room); (case ku => ktr_units)); intro y9 m9 d9 t91 t92 t93 D9 h9 tk9 p9 F9 N9 l9; (try dsimp only at p9); (try dsimp only); (try simp only [AllLt, and_true] at l9)))
local macro_rules | `(tactic| walk_at "call ref") => `(tactic| (k_here; (with_reducible show wpAny _ _ (call (Value.ref 285) _) _ _ _); k_dflt (refine' @Held.out _ (ConO.useh (c_day3 _ _ _ _ _ _ _ _ _ _) ?k1 ?k2 ?k3 ?k4 ?ko ?k5 ?kK ?kd ?ku ?kp ?_); (case k1 => k_asm); (case k2 => k_asm); (case k3 => k_asm); (case k4 => k_asm); (case ko => k_mem); (case k5 => k_asm); (case kK => first | exact rfl | assumption); (case kd => ktr_room); (case ku => ktr_units); (case kp => exact ⟨by omega, Nxt.day ⟨by omega, by omega⟩ (by assumption)⟩)); intro x9 t9 h9 tk9 p9 F9 N9; (try dsimp only at p9); (try dsimp only)))
local macro_rules | `(tactic| walk_at "call ref") => `(tactic| (k_here; (with_reducible show wpAny _ _ (call (Value.ref 285) _) _ _ _); k_dflt (refine' @Held.out _ (ConO.useh (c_day5k _ _ _ _ _ _ _ _) ?k1 ?k2 ?k3 ?k4 ?ko ?k5 ?kK ?kd ?ku ?kp ?_); (case k1 => k_asm); (case k2 => k_asm); (case k3 => k_asm); (case k4 => k_asm); (case ko => k_mem); (case k5 => k_asm); (case kK => first | exact rfl | assumption); (case kd => ktr_room); (case ku => ktr_units); (case kp => exact ⟨by omega, by omega, Nxt.day5 (by omega) (by assumption)⟩)); intro x9 t9 h9 tk9 p9 F9 N9; (try dsimp only at p9); (try dsimp only)))
local macro_rules | `(tactic| walk_at "call ref") => `(tactic| (k_here; (with_reducible show wpAny _ _ (call (Value.ref 285) _) _ _ _); k_dflt (refine' @Held.out _ (ConO.useh (c_day6k _ _ _ _ _ _ _ _ _ _) ?k1 ?k2 ?k3 ?k4 ?ko ?k5 ?kK ?kd ?ku ?kp ?_); (case k1 => k_asm); (case k2 => k_asm); (case k3 => k_asm); (case k4 => k_asm); (case ko => k_mem); (case k5 => k_asm); (case kK => first | exact rfl | assumption); (case kd => ktr_room); (case ku => ktr_units); (case kp => exact ⟨by omega, by omega, Nxt.day ⟨by omega, by omega⟩ (by assumption)⟩)); intro x9 t9 h9 tk9 p9 F9 N9; (try dsimp only at p9); (try dsimp only)))
local macro_rules | `(tactic| walk_at "call ref") => `(tactic| (k_here; (with_reducible show wpAny _ _ (call (Value.ref 311) _) _ _ _); k_dflt (refine' @Held.out _ (ConQ.useh (c_earl3 _ _ _ _ _ _ _ _ _ _ _ _ _ _ _) ?k1 ?k2 ?k3 ?k4 ?ko ?ko2 ?k5 ?kK ?kd ?ku ?kp ?_); (case k1 => k_asm); (case k2 => k_asm); (case k3 => k_asm); (case k4 => k_asm); (case ko => k_mem); (case ko2 => k_mem); (case k5 => k_asm); (case kK => first | exact rfl | assumption); (case kd => ktr_room); (case ku => ktr_units); (case kp => first | exact Or.inl rfl | exact Or.inr rfl)); intro x9 t9 h9 tk9 p9 F9 N9; cases x9 <;> (try dsimp only at p9) <;> (try dsimp only)))
local macro_rules | `(tactic| walk_at "call ref") => `(tactic| (k_here; (with_reducible show wpAny _ _ (call (Value.ref 311) _) _ _ _); k_dflt (refine' @Held.out _ (ConQ.useh (c_earl2 _ _ _ _ _ _ _ _ _ _) ?k1 ?k2 ?k3 ?k4 ?ko ?ko2 ?k5 ?kK ?kd ?ku ?kp ?_); (case k1 => k_asm); (case k2 => k_asm); (case k3 => k_asm); (case k4 => k_asm); (case ko => k_mem); (case ko2 => k_mem); (case k5 => k_asm); (case kK => first | exact rfl | assumption); (case kd => ktr_room); (case ku => ktr_units); (case kp => first | exact Or.inl rfl | exact Or.inr rfl)); intro x9 t9 h9 tk9 p9 F9 N9; cases x9 <;> (try dsimp only at p9) <;> (try dsimp only)))
local macro_rules | `(tactic| walk_at "call ref") => `(tactic| (k_here; (with_reducible show wpAny _ _ (call (Value.ref 179) _) _ _ _); k_dflt (refine' @Held.out _ (ConZ.useh (c_from_isoR _ _) ?k1 ?k2 ?k3 ?k4 ?k5 ?kK ?kd ?ku ?kp ?_); (case kp => first | exact True.intro | assumption | omega); (case k1 => k_asm); (case k2 => k_asm); (case k3 => k_asm); (case k4 => k_asm); (case k5 => k_asm); (case kK => first | exact rfl | assumption); (case kd => ktr_room); (case ku => ktr_units)); intro e9 g9 h9 tk9 F9 R9 U9; (try dsimp only at R9 U9 ⊢)))
local macro_rules | `(tactic| walk_at "compareOp NotEq ref ref") => `(tactic| (k_here; (with_reducible show wpAny _ _ (compareOp CmpOp.NotEq (Value.ref _) (Value.ref _)) _ _ _); k_dflt (first
  | (refine' @Held.out _ (seq_neh ?uN ?ua ?ub ?us ?uz ?uu ?_); (case uN => k_asm); (case ua => k_mem); (case ub => k_mem); (case us => rfl); (case uz => first | exact zip3n (by assumption) (by assumption) ⟨by omega, by omega⟩ | exact zip2n (by assumption) (by assumption) ⟨by omega, by omega⟩); (case uu => ktr_units))
  | (refine' @Held.out _ (iso_neh ?uN ?ua ?ub ?us ?uz ?uu ?_); (case uN => k_asm); (case ua => k_mem); (case ub => k_mem); (case us => rfl); (case uz => exact zip3n (by assumption) (by assumption) ⟨by omega, by omega⟩); (case uu => ktr_units)))))
local macro_rules | `(tactic| walk_at "compareOp NotEq float float") => `(tactic| (k_dflt (refine' @Held.out _ (q_ne_ffh ?ux ?uy ?ue ?un ?_); (case ux => with_reducible rfl); (case uy => with_reducible rfl); (case ue => omega); (case un => omega))))
local macro_rules | `(tactic| walk_at "compareOp NotEq bool bool") => `(tactic| (k_dflt (refine' @Held.out _ (q_ne_bbh ?ue ?_); (case ue => first | exact lexT (by assumption) (by assumption) (by assumption) ⟨by omega, by omega⟩ | exact lexF (by assumption) (by assumption) (by assumption) ⟨by omega, by omega⟩))))
local macro_rules | `(tactic| walk_at "StepEnd") => `(tactic| first
  | (refine step_yes (by assumption) (by assumption) (by walk_at "my sub") rfl ?_ (lexlt (by assumption) (by assumption) (by assumption) ⟨by omega, by omega⟩); omega)
  | (refine step_no (by assumption) (by assumption) (by walk_at "my sub") ?_ (lexge (by assumption) (by assumption) (by assumption) ⟨by omega, by omega⟩); omega))
local macro_rules | `(tactic| walk_at "PassEnd") => `(tactic| (refine pass_end (by assumption) (by assumption) (by walk_at "my sub") ?_; rfl))
local macro_rules | `(tactic| walk_at "ItemsRest") => `(tactic| first
  | ((k_dflt (refine' pass2 ?ulk ?umk ?uhd ?_ ?_; (case ulk => exact ktn_ltOf (by kcu_lt)); (case umk => k_mem); (case uhd => rfl))); all_goals (first | (intro p' t' m' oI' h' tk' hp' hc' F' N'; (try dsimp only)) | (intro h' tk' m' F' N'; (try dsimp only))))
  | ((k_dflt (refine' steps9' ?ug ?ulk ?umk ?ub ?u1 ?u2 ?_ ?_; (case ug => assumption); (case ulk => exact ktn_ltOf (by kcu_lt)); (case umk => k_mem); (case ub => omega); (case u1 => omega); (case u2 => omega))); all_goals (first | (intro st' low' t' u' so' oI' h' tk' hs1' hs2' hb' hl' hn' hc' F' N'; (try dsimp only)) | (intro h' tk' u' so' F' N'; (try dsimp only)))))
local macro_rules | `(tactic| walk_at "exec For Name Call cons nil") => `(tactic| (k_here; (rename Fr _ _ _ _ => lF'); (with_unfolding_all refine' For_turns lF' ?_; k_whole)))
local macro_rules | `(tactic| walk_at "subscriptTail") => `(tactic| (k_here; (with_reducible show wpAny _ _ (subscriptTail _ _ (Value.ref _) (Value.int _ _)) _ _ _); k_dflt (refine' @Held.out _ (q_itemh ?ul ?ui ?ua ?ub ?uc ?_ ?ue); (case ul => exact News.isList (by k_asm) (by k_mem)); (case ui => assumption); (case ua => omega); (case ub => (have hz := headlen (by assumption); omega)); (case uc => omega); (case ue => with_unfolding_all rfl)); intro c' t'))
local macro_rules | `(tactic| walk_at "subscriptTail Name BinOp ref int") => `(tactic| (k_here; (with_reducible show wpAny _ _ (subscriptTail _ _ (Value.ref _) (Value.int _ _)) _ _ _); k_dflt (refine' @Held.out _ (q_itemh ?ul ?ui ?ua ?ub ?uc ?_ ?ue); (case ul => exact News.isList (by k_asm) (by k_mem)); (case ui => assumption); (case ua => omega); (case ub => (have hz := headlen (by assumption); omega)); (case uc => omega); (case ue => with_unfolding_all rfl)); intro c' t'))
local macro_rules | `(tactic| walk_at "subscriptTail Name Name ref int") => `(tactic| (k_here; (with_reducible show wpAny _ _ (subscriptTail _ _ (Value.ref _) (Value.int _ _)) _ _ _); k_dflt (refine' @Held.out _ (q_itemh ?ul ?ui ?ua ?ub ?uc ?_ ?ue); (case ul => exact News.isList (by k_asm) (by k_mem)); (case ui => assumption); (case ua => omega); (case ub => (have hz := headlen (by assumption); omega)); (case uc => omega); (case ue => with_unfolding_all rfl)); intro c' t'))
local macro_rules | `(tactic| walk_at "call builtin:len") => `(tactic| (k_here; (with_reducible show wpAny _ _ (call (Value.builtin "len") [Value.ref _]) _ _ _); k_dflt (refine' @Held.out _ (q_lenh ?N ?m ?i ?z ?_); (case N => k_asm); (case m => k_mem); (case i => assumption); (case z => first | assumption | omega | ((rw [IntsAre.length (by assumption)]); (simp only [List.length_take]); omega))); intro c' hc' t' tk'))
local macro_rules | `(tactic| walk_at "my ints") => `(tactic| first | assumption | (repeat (first | exact IntsAre.nil | refine IntsAre.cons _ _ ?_)))
local macro_rules | `(tactic| walk_at "subscriptTail Call Name nil nil Slice ref ref") => `(tactic| (k_here; k_dflt (refine kba_turn (value' := PySem.Expr.Name (PySem.Str.ofString "_") ⟨0, 0, 0, 0⟩) (fun _ => rfl) ?_); k_dflt (refine' kmk_slice_ints (ns := [0, 3, 32, 2, 13, 32]) ?uuF ?uuN ?uul ?uup ?uuq ?uui ?uum ?uuc ?_ ?uus ?uut ?uuz; (case uuF => k_asm); (case uuN => k_asm); (case uul => exact News.isList (by k_asm) (by k_mem)); (case uup => exact IsPart.int _ _); (case uuq => exact IsPart.none); (case uui => walk_at "my ints"); (case uum => exact kmk_from (ns := [0, 3, 32, 2, 13, 32]) (by walk_at "my ints") (by omega)); (case uuc => exact rfl); (case uus => with_unfolding_all rfl); (case uut => kmk_pure); (case uuz => exact Nat.le_of_ble_eq_true rfl)); intro D' ws' h' F' N' l1 hI' hC' hL'; (try k_lt l1); (try k_sweep)))
theorem law_all : Challenge.rw_ad5030_01.Holds := Mine.hd (by
  k_go0
  all_goals (try k_fold)
  k_steps)
end
end
end
end
end Mine
theorem PySem.Challenge.cw_ad5030_01_holds : PySem.Challenge.rw_ad5030_01.Holds := by
  exact Mine.law_all
