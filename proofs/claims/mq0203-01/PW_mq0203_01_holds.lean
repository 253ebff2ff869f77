import PyProof.Rows.All
import Wide.All
import OpenK.AllK
import Wide.FinOn
import Flt.RightMore
import Flt.RightSqrt
import Flt.Calls
import PySem.Challenge.RW_mq0203_01
set_option Elab.async false
section
namespace Mine
local macro_rules | `(tactic| walk_at $s:str) => do let k := Lean.Syntax.mkStrLit (s.getString ++ "!"); `(tactic| k_extra $k)
local macro_rules | `(tactic| k_all) => `(tactic| k_extra "k_all!")
local macro_rules | `(tactic| k_dflt done) => `(tactic| k_extra "k_dflt_done!")
local macro_rules | `(tactic| x_close) => `(tactic| k_extra "x_close!")
section
theorem clear_Hd1 : True := by k_with_none; trivial
open PySem PySem.W PyProof.Rows
set_option maxRecDepth 100000
set_option maxHeartbeats 8000000
def hv : Program := { PySem.Challenge.pw_mq0203_01 with main := { PySem.Challenge.pw_mq0203_01.main with body := (PySem.Challenge.pw_mq0203_01.main.body.drop 1).take 1 ++ PySem.Challenge.pw_mq0203_01.main.body.drop 5 } }
theorem said1 : OpenLaw.wellSaid PySem.Challenge.rw_mq0203_01 = true := by kernel_rfl!
local macro_rules | `(tactic| o_law) => `(tactic| refine holds_law said1 fun said => ?_)
theorem own_open (H : Hook) {d : DefRec} {kwd : List (Str × PySem.Expr)} (h1 : defOf hv PySem.Challenge.rw_mq0203_01.row.name = some (d, kwd)) (h2 : PySem.Challenge.rw_mq0203_01.row.prog.theDef PySem.Challenge.rw_mq0203_01.row.name = some (d.params, d.body, d.scope))
    (h3 : kwWritten? d.params.kwonlyargs d.params.kw_defaults = some kwd)
    (hl : LeftO PySem.Challenge.rw_mq0203_01.row.prog hv [Str.ofString "_initial_missing", Str.ofString "reduce"] (fun s => xlAt hv [] s && recOk (RowW.records (OpenRow.toRowW PySem.Challenge.rw_mq0203_01.row)) s) H.obs H.val 1102)
    (hw : PySem.Challenge.rw_mq0203_01.row.promised) (hs : PySem.Challenge.rw_mq0203_01.row.wellSaid = true)
    (hc : WalkO hv [Str.ofString "_initial_missing", Str.ofString "reduce"] (XL hv []) H.says PySem.Challenge.rw_mq0203_01.row.toRowW d kwd fun f vs => call f vs) : PySem.Challenge.rw_mq0203_01.row.Holds :=
  PySem.W.holds_open hl H.of H.keeps (fun s e => xl_of s (Bool.and_eq_true_iff.mp e).1) XL.keeps h1 h2 h3 (fun s e => recFacts_of (Bool.and_eq_true_iff.mp e).2) (by rfl) hs (by decide +kernel) ⟨rfl, rfl, rfl, rfl, rfl, by decide +kernel⟩ hw hc
local macro_rules | `(tactic| o_head $H) => `(tactic| (refine own_open $H (by rfl) (by rfl) (by rfl) ?hl ?hw (by decide +kernel) ?hc; (case hl => intro w; kernel_rfl!)))
open_top hd for PySem.Challenge.rw_mq0203_01
end
theorem top_off : True := by w_top off; trivial
section
theorem clear_FltD : True := by k_with_none; trivial
open PySem PySem.Float64

noncomputable def fl (n : Int) (k : Nat) : UInt64 := ofBin (decide (n < 0)) n.natAbs (-(k : Int))

theorem V_inj {t t' : Nat} (h : V t = V t') : t = t' := by
  rcases Nat.lt_trichotomy t t' with q | q | q
  · exact absurd h (Nat.ne_of_lt (V_lt q))
  · exact q
  · exact absurd h.symm (Nat.ne_of_lt (V_lt q))

theorem ex_mag (N k : Nat) (hN : N < 2 ^ 53) (hk : k ≤ 1000) : ∃ t, t < infMag ∧ V t = N * 2 ^ (1074 - k) := by
  by_cases h0 : N = 0
  · subst h0; exact ⟨0, by decide, by rw [V_zero]; simp⟩
  · have hl := Nat.log2_lt h0 |>.mpr hN
    have h1 : 2 ^ N.log2 ≤ N := Nat.log2_self_le h0
    have h2 : N < 2 ^ (N.log2 + 1) := Nat.lt_log2_self
    have e53 : (2 : Nat) ^ 53 = 2 ^ (N.log2 + 1) * 2 ^ (52 - N.log2) := by rw [← Nat.pow_add]; congr 1; lia
    have e52 : (2 : Nat) ^ 52 = 2 ^ N.log2 * 2 ^ (52 - N.log2) := by rw [← Nat.pow_add]; congr 1; lia
    have hp := Nat.two_pow_pos (52 - N.log2)
    have q1 : N * 2 ^ (52 - N.log2) < 2 ^ 53 := by rw [e53]; exact Nat.mul_lt_mul_of_pos_right h2 hp
    have q2 : 2 ^ 52 ≤ N * 2 ^ (52 - N.log2) := by rw [e52]; exact Nat.mul_le_mul_right _ h1
    refine ⟨(1074 - k - (52 - N.log2)) * 2 ^ 52 + N * 2 ^ (52 - N.log2), ?_, ?_⟩
    · have : infMag = 2047 * 2 ^ 52 := rfl
      have h3 : (1074 - k - (52 - N.log2)) * 2 ^ 52 ≤ 1074 * 2 ^ 52 := Nat.mul_le_mul_right _ (by lia)
      lia
    · rw [V_at (Nat.le_of_lt q1) (.inl q2), Nat.mul_assoc, ← Nat.pow_add]
      congr 2; lia

theorem nn {x : Int} {n : Nat} (h0 : 0 ≤ x) (h1 : x < n) : x.natAbs < n := by omega
theorem dist0 {a b : Nat} (h : dist a b ≤ 0) : a = b :=
  have e := Nat.add_eq_zero_iff.mp (Nat.eq_zero_of_le_zero h)
  Nat.le_antisymm (Nat.le_of_sub_eq_zero e.1) (Nat.le_of_sub_eq_zero e.2)
theorem tz {a b c : Int} (h0 : 0 ≤ a) (h1 : 0 ≤ b) (e : a + b = c) : a.toNat + b.toNat = c.toNat := by rw [← Int.toNat_add h0 h1, e]
theorem eM {k j : Nat} (h : k + j ≤ 1000) : 1074 - k + (1074 - j) = 1074 + (1074 - (k + j)) := by
  have hk : k ≤ 1074 - j := Nat.le_sub_of_add_le (Nat.le_trans h (by decide))
  have hj : j ≤ 1074 := Nat.le_trans (Nat.le_add_left j k) (Nat.le_trans h (by decide))
  have e : 1074 - (k + j) = 1074 - j - k := by rw [Nat.add_comm k j, Nat.sub_sub]
  rw [e, ← Nat.add_sub_assoc hk, Nat.add_comm (1074 - k), ← Nat.add_sub_assoc (Nat.le_trans hk (Nat.sub_le ..)), Nat.add_comm 1074]
theorem right_pack {r : UInt64} {neg : Bool} {W D N k t : Nat} (h : Right r neg W D) (hD : 0 < D) (hN : N < 2 ^ 53) (hk : k ≤ 1000) (ht : t < infMag) (hV : V t = N * 2 ^ (1074 - k)) (hW : W = D * (N * 2 ^ (1074 - k))) : r = pack neg t := by
  obtain ⟨t0, rfl, hle, hinf, hnear⟩ := h
  have hb : N * 2 ^ (1074 - k) < 2 ^ 53 * 2 ^ 1074 := by
    have h1 : (2 : Nat) ^ (1074 - k) ≤ 2 ^ 1074 := Nat.pow_le_pow_right (by decide) (Nat.sub_le ..)
    have h2 := Nat.two_pow_pos (1074 - k)
    calc N * 2 ^ (1074 - k) < 2 ^ 53 * 2 ^ (1074 - k) := Nat.mul_lt_mul_of_pos_right hN h2
      _ ≤ _ := Nat.mul_le_mul_left _ h1
  have hne : t0 ≠ infMag := by
    intro e
    have h1 := hinf.mp e
    rw [hW] at h1
    have h2 : 2 * (D * (N * 2 ^ (1074 - k))) = D * (2 * (N * 2 ^ (1074 - k))) := by ac_rfl
    rw [h2] at h1
    have h3 := Nat.le_of_mul_le_mul_left h1 hD
    have h4 : 2 * (2 ^ 53 * 2 ^ 1074) ≤ (2 ^ 54 - 1) * 2 ^ 2045 := by decide +kernel
    exact absurd h3 (Nat.not_le.mpr (Nat.lt_of_lt_of_le (Nat.mul_lt_mul_of_pos_left hb (by decide)) h4))
  have hlt : t0 < infMag := Nat.lt_of_le_of_ne hle hne
  have hd := (hnear hlt t).1
  rw [hW, ← hV] at hd
  have h0 : dist (D * V t) (D * V t) = 0 := by unfold dist; lia
  rw [h0] at hd
  have h5 : D * V t = D * V t0 := by first | exact dist0 hd | exact (dist0 hd).symm
  rw [V_inj (Nat.eq_of_mul_eq_mul_left hD h5)]

theorem fl_pack {n : Int} {k t : Nat} (hn : n.natAbs < 2 ^ 53) (hk : k ≤ 1000) (ht : t < infMag) (hV : V t = n.natAbs * 2 ^ (1074 - k)) : fl n k = pack (decide (n < 0)) t := by
  have h := ofBin_right (neg := decide (n < 0)) (M := n.natAbs) (g := -(k : Int)) (by lia)
  refine right_pack h (by decide) hn hk ht hV ?_
  rw [Nat.one_mul]; congr 2; lia

theorem fl_right {r : UInt64} {n : Int} {k W D : Nat} (h : Right r (decide (n < 0)) W D) (hn : n.natAbs < 2 ^ 53) (hk : k ≤ 1000) (hD : 0 < D) (hW : W = D * (n.natAbs * 2 ^ (1074 - k))) : r = fl n k := by
  obtain ⟨t, ht, hV⟩ := ex_mag n.natAbs k hn hk
  rw [fl_pack hn hk ht hV]
  exact right_pack h hD hn hk ht hV hW

theorem fl_dec {n : Int} {k : Nat} (hn : n.natAbs < 2 ^ 53) (hk : k ≤ 1000) : ∃ m e, decode (fl n k) = .fin (decide (n < 0)) m e ∧ m * 2 ^ (e + 1074).toNat = n.natAbs * 2 ^ (1074 - k) ∧ -1074 ≤ e := by
  obtain ⟨t, ht, hV⟩ := ex_mag n.natAbs k hn hk
  rw [fl_pack hn hk ht hV]
  obtain ⟨m, e, h1, h2⟩ := decode_pack (decide (n < 0)) ht
  exact ⟨m, e, h1, h2.trans hV, decode_ge h1⟩

theorem sgn_abs (n : Int) (K : Nat) : sgn (decide (n < 0)) (n.natAbs * K) = n * (K : Int) := by
  rw [sgn_mul]
  congr 1
  unfold sgn
  by_cases h : n < 0
  · rw [decide_eq_true h, if_pos rfl]; lia
  · rw [decide_eq_false h, if_neg (by decide)]; lia

theorem fl_val {n : Int} {k : Nat} (hn : n.natAbs < 2 ^ 53) (hk : k ≤ 1000) : val (fl n k) = n * ((2 ^ (1074 - k) : Nat) : Int) := by
  obtain ⟨m, e, h1, h2, _⟩ := fl_dec hn hk
  rw [val_eq h1, h2, sgn_abs]

theorem pow_pos_int (c : Nat) : (0 : Int) < ((2 ^ c : Nat) : Int) := Int.ofNat_lt.mpr (Nat.two_pow_pos _)

theorem fl_zero (k : Nat) : fl 0 k = zero false := by
  unfold fl zero ofBin ofFrac
  have : ∀ d, roundMag 0 d = 0 := fun d => rfl
  simp only [shift]
  split <;> simp [this]

theorem fl_add {a b : Int} {k : Nat} (ha : a.natAbs < 2 ^ 53) (hb : b.natAbs < 2 ^ 53) (hab : (a + b).natAbs < 2 ^ 53) (hk : k ≤ 1000) : add (fl a k) (fl b k) = fl (a + b) k := by
  obtain ⟨m, e, h1, _, _⟩ := fl_dec ha hk
  obtain ⟨m', e', h1', _, _⟩ := fl_dec hb hk
  have h := add_right h1 h1'
  rw [fl_val ha hk, fl_val hb hk, ← Int.add_mul] at h
  have hp := pow_pos_int (1074 - k)
  by_cases h0 : a + b = 0
  · rw [h.1 (by rw [h0, Int.zero_mul]), h0, fl_zero]
    congr 1
    by_cases q : a < 0
    · rw [decide_eq_true q, decide_eq_false (by lia : ¬ b < 0)]; rfl
    · rw [decide_eq_false q]; rfl
  · have h2 := h.2 (by intro e; rcases Int.mul_eq_zero.mp e with q | q; exact h0 q; lia)
    refine fl_right ?_ hab hk (by decide) ?_ (W := ((a + b) * ((2 ^ (1074 - k) : Nat) : Int)).natAbs) (D := 1)
    · have e : decide ((a + b) * ((2 ^ (1074 - k) : Nat) : Int) < 0) = decide (a + b < 0) := by
        congr 1
        refine propext ⟨fun q => ?_, fun q => Int.mul_neg_of_neg_of_pos q hp⟩
        by_cases z : a + b < 0
        · exact z
        · have z2 := Int.mul_nonneg (show (0 : Int) ≤ a + b by lia) (Int.le_of_lt hp)
          lia
      rw [← e]; exact h2
    · rw [Int.natAbs_mul, Nat.one_mul]; rfl


theorem sign_scale (z : Int) (c : Nat) : decide (z * ((2 ^ c : Nat) : Int) < 0) = decide (z < 0) := by
  have hp := pow_pos_int c
  congr 1
  refine propext ⟨fun q => ?_, fun q => Int.mul_neg_of_neg_of_pos q hp⟩
  by_cases h : z < 0
  · exact h
  · have z2 := Int.mul_nonneg (show (0 : Int) ≤ z by lia) (Int.le_of_lt hp)
    lia

theorem fl_sub {a b : Int} {k : Nat} (ha : a.natAbs < 2 ^ 53) (hb : b.natAbs < 2 ^ 53) (hab : (a - b).natAbs < 2 ^ 53) (hk : k ≤ 1000) : sub (fl a k) (fl b k) = fl (a - b) k := by
  obtain ⟨m, e, h1, _, _⟩ := fl_dec ha hk
  obtain ⟨m', e', h1', _, _⟩ := fl_dec hb hk
  have h := sub_right h1 h1'
  rw [fl_val ha hk, fl_val hb hk, ← Int.sub_mul] at h
  have hp := pow_pos_int (1074 - k)
  by_cases h0 : a - b = 0
  · rw [h.1 (by rw [h0, Int.zero_mul]), h0, fl_zero]
    congr 1
    have : a = b := by lia
    subst this
    cases decide (a < 0) <;> rfl
  · have h2 := h.2 (by intro e; rcases Int.mul_eq_zero.mp e with q | q; exact h0 q; lia)
    rw [sign_scale] at h2
    refine fl_right h2 hab hk (by decide) ?_
    rw [Int.natAbs_mul, Nat.one_mul]; rfl

theorem mul_helper (A B P Q K R : Nat) (h : P * Q = K * R) : A * P * (B * Q) = K * (A * B * R) := by
  calc A * P * (B * Q) = A * B * (P * Q) := by ac_rfl
    _ = _ := by rw [h]; ac_rfl
theorem div_helper (a b c Pk K Pj Pi IJ k2 T : Nat) (hN : a * IJ = c * b * k2) (s1 : Pk * K = IJ * T) (s2 : Pj * Pi = k2 * T) : a * Pk * K = b * Pj * (c * Pi) := by
  calc a * Pk * K = a * (Pk * K) := by ac_rfl
    _ = a * IJ * T := by rw [s1]; ac_rfl
    _ = c * b * (k2 * T) := by rw [hN]; ac_rfl
    _ = c * b * (Pj * Pi) := by rw [s2]
    _ = _ := by ac_rfl

theorem fl_mul {a b : Int} {k j : Nat} (ha0 : 0 ≤ a) (hb0 : 0 ≤ b) (ha : a.natAbs < 2 ^ 53) (hb : b.natAbs < 2 ^ 53) (hab : (a * b).natAbs < 2 ^ 53) (hkj : k + j ≤ 1000) : mul (fl a k) (fl b j) = fl (a * b) (k + j) := by
  obtain ⟨m, e, h1, _, _⟩ := fl_dec ha (by lia : k ≤ 1000)
  obtain ⟨m', e', h1', _, _⟩ := fl_dec hb (by lia : j ≤ 1000)
  have h := mul_right h1 h1'
  rw [fl_val ha (by lia), fl_val hb (by lia)] at h
  have e0 : (decide (a < 0) != decide (b < 0)) = decide (a * b < 0) := by
    have := Int.mul_nonneg ha0 hb0
    rw [decide_eq_false (Int.not_lt.mpr ha0), decide_eq_false (Int.not_lt.mpr hb0), decide_eq_false (Int.not_lt.mpr this)]; rfl
  rw [e0] at h
  refine fl_right h hab hkj (Nat.two_pow_pos _) ?_
  rw [Int.natAbs_mul, Int.natAbs_mul, Int.natAbs_mul]
  show a.natAbs * 2 ^ (1074 - k) * (b.natAbs * 2 ^ (1074 - j)) = _
  refine mul_helper _ _ _ _ _ _ ?_
  rw [← Nat.pow_add, ← Nat.pow_add, eM hkj]

theorem fl_dec_ne {n : Int} {k : Nat} (hn : n.natAbs < 2 ^ 53) (hk : k ≤ 1000) (h0 : n ≠ 0) : ∃ m e, decode (fl n k) = .fin (decide (n < 0)) m e ∧ m ≠ 0 := by
  obtain ⟨m, e, h1, h2, _⟩ := fl_dec hn hk
  refine ⟨m, e, h1, fun q => ?_⟩
  subst q
  rw [Nat.zero_mul] at h2
  have := Nat.mul_pos (show 0 < n.natAbs by lia) (Nat.two_pow_pos (1074 - k))
  lia

theorem le74 {k : Nat} (hk : k ≤ 500) : k ≤ 1074 := Nat.le_trans hk (by decide)
theorem sN1 {k i j : Nat} (hk : k ≤ 500) (hj : j ≤ 500) (hi : i ≤ 500) : 1074 - k + 1074 = i + j + (2148 - k - i - j) := by
  have e : 2148 - k = 1074 - k + 1074 := Nat.sub_add_comm (n := 1074) (m := 1074) (le74 hk)
  have h : i + j ≤ 1074 - k + 1074 := Nat.le_trans (Nat.add_le_add hi hj) (Nat.le_trans (by decide) (Nat.le_add_left ..))
  rw [e, Nat.sub_sub _ i j, Nat.add_sub_cancel' h]
theorem sN2 {k i j : Nat} (hk : k ≤ 500) (hj : j ≤ 500) (hi : i ≤ 500) : 1074 - j + (1074 - i) = k + (2148 - k - i - j) := by
  have h1 : 2148 - k - i - j = 2148 - (i + j) - k := by rw [Nat.sub_sub, Nat.sub_sub, Nat.sub_sub, Nat.add_assoc, Nat.add_comm k, Nat.add_assoc]
  have h2 : 2148 - (i + j) = 1074 - i + (1074 - j) := by
    rw [← Nat.sub_sub, show (2148 : Nat) - i = 1074 - i + 1074 from Nat.sub_add_comm (n := 1074) (m := 1074) (le74 hi), Nat.add_sub_assoc (le74 hj)]
  have h3 : k ≤ 1074 - i + (1074 - j) := Nat.le_trans hk (Nat.le_trans (Nat.le_sub_of_add_le (Nat.le_trans (Nat.add_le_add (Nat.le_refl 500) hi) (by decide))) (Nat.le_add_right ..))
  rw [h1, h2, Nat.add_sub_cancel' h3, Nat.add_comm]
theorem fl_div {a b c : Int} {k j i : Nat} (hb0 : 0 < b) (ha : a.natAbs < 2 ^ 53) (hb : b.natAbs < 2 ^ 53) (hc : c.natAbs < 2 ^ 53) (hk : k ≤ 500) (hj : j ≤ 500) (hi : i ≤ 500) (he : a * 2 ^ (i + j) = c * b * 2 ^ k) : div (fl a k) (fl b j) = fl c i := by
  obtain ⟨m, e, h1, _, _⟩ := fl_dec ha (by lia : k ≤ 1000)
  obtain ⟨m', e', h1', hm'⟩ := fl_dec_ne hb (by lia : j ≤ 1000) (by lia)
  have h := div_right h1 h1' hm'
  rw [fl_val ha (by lia), fl_val hb (by lia)] at h
  have pk : (0 : Int) < 2 ^ k := Int.pow_pos (by decide)
  have pij : (0 : Int) < 2 ^ (i + j) := Int.pow_pos (by decide)
  have e0 : (decide (a < 0) != decide (b < 0)) = decide (c < 0) := by
    rw [decide_eq_false (by lia : ¬ b < 0), Bool.bne_false]
    congr 1
    refine propext ⟨fun q => ?_, fun q => ?_⟩
    · by_cases z : c < 0
      · exact z
      · have z1 := Int.mul_nonneg (Int.mul_nonneg (Int.not_lt.mp z) (Int.le_of_lt hb0)) (Int.le_of_lt pk)
        have z2 := Int.mul_neg_of_neg_of_pos q pij
        rw [← he] at z1
        exact absurd z1 (Int.not_le.mpr z2)
    · by_cases z : a < 0
      · exact z
      · have z1 := Int.mul_neg_of_neg_of_pos (Int.mul_neg_of_neg_of_pos q hb0) pk
        have z2 := Int.mul_nonneg (Int.not_lt.mp z) (Int.le_of_lt pij)
        rw [he] at z2
        exact absurd z2 (Int.not_le.mpr z1)
  rw [e0] at h
  have hpos : 0 < (b * ((2 ^ (1074 - j) : Nat) : Int)).natAbs := by
    rw [Int.natAbs_mul]; exact Nat.mul_pos (by omega) (Nat.two_pow_pos _)
  refine fl_right h hc (by lia) hpos ?_
  rw [Int.natAbs_mul, Int.natAbs_mul]
  show a.natAbs * 2 ^ (1074 - k) * 2 ^ 1074 = b.natAbs * 2 ^ (1074 - j) * (c.natAbs * 2 ^ (1074 - i))
  have hN : a.natAbs * 2 ^ (i + j) = c.natAbs * b.natAbs * 2 ^ k := by
    have := congrArg Int.natAbs he
    rw [Int.natAbs_mul, Int.natAbs_mul, Int.natAbs_mul, Int.natAbs_pow, Int.natAbs_pow] at this
    exact this
  have s1 : (2 : Nat) ^ (1074 - k) * 2 ^ 1074 = 2 ^ (i + j) * 2 ^ (2148 - k - i - j) := by rw [← Nat.pow_add, ← Nat.pow_add, sN1 hk hj hi]
  have s2 : (2 : Nat) ^ (1074 - j) * 2 ^ (1074 - i) = 2 ^ k * 2 ^ (2148 - k - i - j) := by rw [← Nat.pow_add, ← Nat.pow_add, sN2 hk hj hi]
  exact div_helper _ _ _ _ _ _ _ _ _ _ hN s1 s2

theorem fl_cmp {a b : Int} {k : Nat} (ha : a.natAbs < 2 ^ 53) (hb : b.natAbs < 2 ^ 53) (hk : k ≤ 1000) : cmp (fl a k) (fl b k) = some (compare a b) := by
  obtain ⟨m, e, h1, _, _⟩ := fl_dec ha hk
  obtain ⟨m', e', h1', _, _⟩ := fl_dec hb hk
  rw [cmp_right h1 h1', fl_val ha hk, fl_val hb hk]
  have hp := pow_pos_int (1074 - k)
  congr 1
  rcases Int.lt_trichotomy a b with h | h | h
  · rw [Int.compare_eq_lt.mpr h, Int.compare_eq_lt.mpr (Int.mul_lt_mul_of_pos_right h hp)]
  · subst h; simp
  · rw [Int.compare_eq_gt.mpr h, Int.compare_eq_gt.mpr (Int.mul_lt_mul_of_pos_right h hp)]

theorem fl_up {a : Int} {k j : Nat} (ha : (a * 2 ^ j).natAbs < 2 ^ 53) (hkj : k + j ≤ 1000) : fl (a * 2 ^ j) (k + j) = fl a k := by
  have hpw : (1 : Nat) ≤ 2 ^ j := Nat.two_pow_pos j
  have e0 : (a * 2 ^ j).natAbs = a.natAbs * 2 ^ j := by rw [Int.natAbs_mul, Int.natAbs_pow]; rfl
  have ha' : a.natAbs < 2 ^ 53 := by
    rw [e0] at ha
    exact Nat.lt_of_le_of_lt (Nat.le_mul_of_pos_right _ hpw) ha
  obtain ⟨t, ht, hV⟩ := ex_mag a.natAbs k ha' (by lia)
  rw [fl_pack ha' (by lia) ht hV, fl_pack ha hkj ht ?_]
  · congr 1
    have := sign_scale a j
    rw [← this]
    congr 2
  · rw [hV, e0, Nat.mul_assoc, ← Nat.pow_add]; congr 2; lia

theorem fl_ofInt {i : Int} (hi : i.natAbs < 2 ^ 53) : ofInt i = fl i 0 := by
  have h := ofInt_right i
  refine fl_right h hi (by decide) (by decide) ?_
  rw [Nat.one_mul]

theorem fl_ofFrac {n : Int} {d k : Nat} (hn : n.natAbs < 2 ^ 53) (hk : k ≤ 1000) (hd : d = 2 ^ k) : ofFrac (decide (n < 0)) n.natAbs d = fl n k := by
  subst hd
  refine fl_right (ofFrac_right (W := n.natAbs * 2 ^ (1074 - k)) (D := 1) (Nat.two_pow_pos k) ?_ (by decide)) hn hk (by decide) (by rw [Nat.one_mul])
  rw [Nat.mul_one, Nat.mul_assoc, ← Nat.pow_add]; congr 2; lia

theorem fl_isNaN {n : Int} {k : Nat} (hn : n.natAbs < 2 ^ 53) (hk : k ≤ 1000) : isNaN (fl n k) = false := by
  obtain ⟨m, e, h1, _, _⟩ := fl_dec hn hk
  unfold isNaN; rw [h1]
theorem fl_isInf {n : Int} {k : Nat} (hn : n.natAbs < 2 ^ 53) (hk : k ≤ 1000) : isInf (fl n k) = false := by
  obtain ⟨m, e, h1, _, _⟩ := fl_dec hn hk
  unfold isInf; rw [h1]
theorem fl_isZero {n : Int} {k : Nat} (hn : n.natAbs < 2 ^ 53) (hk : k ≤ 1000) : isZero (fl n k) = decide (n = 0) := by
  by_cases h0 : n = 0
  · subst h0; rw [fl_zero]; decide +kernel
  · obtain ⟨m, e, h1, h2⟩ := fl_dec_ne hn hk h0
    unfold isZero; rw [h1, decide_eq_false h0]
    cases m with
    | zero => exact absurd rfl h2
    | succ m => rfl

theorem fl_trunc {n k : Nat} (hn : n < 2 ^ 53) (hk : k ≤ 1000) : Flt.toInt truncOf (fl (n : Int) k) = ((n / 2 ^ k : Nat) : Int) := by
  obtain ⟨m, e, h1, h2, h3⟩ := fl_dec (n := (n : Int)) (by simpa using hn) hk
  unfold Flt.toInt; rw [h1]
  have hneg : decide ((n : Int) < 0) = false := decide_eq_false (by lia)
  rw [hneg]
  show truncOf false m e = _
  have hn' : ((n : Int)).natAbs = n := rfl
  rw [hn'] at h2
  unfold truncOf floorOf sgn
  simp only [Bool.false_eq_true, if_false]
  have hpk := Nat.two_pow_pos k
  split
  · rename_i he
    have e1 : (e + 1074).toNat = e.toNat + (1074 - k) + k := by
      rw [Int.toNat_add he (by decide), Nat.add_assoc, Nat.sub_add_cancel (Nat.le_trans hk (by decide))]; rfl
    rw [e1, Nat.pow_add, Nat.pow_add] at h2
    have h4 : n = m * 2 ^ e.toNat * 2 ^ k := by
      refine Nat.eq_of_mul_eq_mul_right (Nat.two_pow_pos (1074 - k)) ?_
      rw [← h2]; ac_rfl
    rw [h4, Nat.mul_div_cancel _ hpk]
    simp
  · rename_i he
    have e1 : (1074 - k) + k = (e + 1074).toNat + (-e).toNat := by
      rw [Nat.sub_add_cancel (Nat.le_trans hk (by decide))]
      exact (tz (c := 1074) (by omega) (by omega) (by omega)).symm
    have hpe := Nat.two_pow_pos (-e).toNat
    have h4 : m * 2 ^ k = n * 2 ^ (-e).toNat := by
      refine Nat.eq_of_mul_eq_mul_right (Nat.mul_pos (Nat.two_pow_pos (1074 - k)) (Nat.two_pow_pos (e + 1074).toNat)) ?_
      have e2 : (2 : Nat) ^ (1074 - k) * 2 ^ k = 2 ^ (e + 1074).toNat * 2 ^ (-e).toNat := by rw [← Nat.pow_add, ← Nat.pow_add, e1]
      calc m * 2 ^ k * (2 ^ (1074 - k) * 2 ^ (e + 1074).toNat) = (m * 2 ^ (e + 1074).toNat) * (2 ^ (1074 - k) * 2 ^ k) := by ac_rfl
        _ = n * 2 ^ (1074 - k) * (2 ^ (e + 1074).toNat * 2 ^ (-e).toNat) := by rw [h2, e2]
        _ = _ := by ac_rfl
    have h5 : m / 2 ^ (-e).toNat = n / 2 ^ k := by
      rw [← Nat.mul_div_mul_right m (2 ^ (-e).toNat) hpk, h4, Nat.mul_comm (2 ^ (-e).toNat) (2 ^ k), Nat.mul_div_mul_right _ _ hpe]
    rw [← h5]
    have : ((2 : Int) ^ (-e).toNat) = ((2 ^ (-e).toNat : Nat) : Int) := by simp
    rw [this]
    exact Int.ofNat_fdiv m (2 ^ (-e).toNat) |>.symm


theorem fl_one : one = fl 1 0 := by decide +kernel

theorem tn {e f : Int} (h : -1074 ≤ e) (h' : -1074 ≤ f) : (e - min e f).toNat + (min e f + 1074).toNat = (e + 1074).toNat ∧ (f - min e f).toNat + (min e f + 1074).toNat = (f + 1074).toNat ∧ -1074 ≤ min e f := by
  have h1 : min e f ≤ e := Int.min_le_left ..
  have h2 : min e f ≤ f := Int.min_le_right ..
  have h3 : -1074 ≤ min e f := Int.le_min.mpr ⟨h, h'⟩
  generalize min e f = m at *
  have h4 : 0 ≤ m + 1074 := by omega
  exact ⟨tz (Int.sub_nonneg_of_le h1) h4 (by omega), tz (Int.sub_nonneg_of_le h2) h4 (by omega), h3⟩
theorem neg_mod {a : Int} {P : Nat} (hneg : a < 0) (hP : 0 < P) (hp : 0 < a.natAbs % P) : a % (P : Int) = -((a.natAbs % P : Nat) : Int) + P := by
  have hl := Nat.mod_lt a.natAbs hP
  have h : ((a.natAbs % P + P * (a.natAbs / P) : Nat) : Int) = (a.natAbs : Int) := congrArg Nat.cast (Nat.mod_add_div a.natAbs P)
  rw [Int.natCast_add, Int.natCast_mul] at h
  have e : a = (-((a.natAbs % P : Nat) : Int) + P) + P * (-((a.natAbs / P : Nat) : Int) - 1) := by
    rw [Int.mul_sub, Int.mul_neg, Int.mul_one]
    generalize (P : Int) * ((a.natAbs / P : Nat) : Int) = y at *
    generalize ((a.natAbs % P : Nat) : Int) = x at *
    omega
  conv => lhs; rw [e]
  rw [Int.add_mul_emod_self_left]
  exact Int.emod_eq_of_lt (by omega) (by omega)
theorem fmod_one {a : Int} {k : Nat} (ha : a.natAbs < 2 ^ 53) (hk : k ≤ 1000) : Right (fmod (fl a k) (fl 1 0)) (decide (a < 0)) (a.natAbs % 2 ^ k * 2 ^ (1074 - k)) 1 := by
  obtain ⟨m, e, h1, h2, h3⟩ := fl_dec ha hk
  obtain ⟨m', e', h1', h2', h3'⟩ := fl_dec (n := 1) (k := 0) (by decide) (by decide)
  obtain ⟨m'', e'', h1'', hm'⟩ := fl_dec_ne (n := 1) (k := 0) (by decide) (by decide) (by decide)
  rw [h1'] at h1''
  cases h1''
  have hf : fmod (fl a k) (fl 1 0) = ofBin (decide (a < 0)) (m * 2 ^ (e - min e e').toNat % (m' * 2 ^ (e' - min e e').toNat)) (min e e') := by
    unfold fmod
    rw [h1, h1']
    have h0 : (m' == 0) = false := by simpa using hm'
    simp only [h0, align, sgn, Bool.false_eq_true, if_false]
    rfl
  rw [hf]
  have hR := ofBin_right (neg := decide (a < 0)) (M := m * 2 ^ (e - min e e').toNat % (m' * 2 ^ (e' - min e e').toNat)) (g := min e e') (tn h3 h3').2.2
  have hc : (m * 2 ^ (e - min e e').toNat % (m' * 2 ^ (e' - min e e').toNat)) * 2 ^ (min e e' + 1074).toNat = a.natAbs % 2 ^ k * 2 ^ (1074 - k) := by
    rw [← Nat.mul_mod_mul_right, Nat.mul_assoc, Nat.mul_assoc, ← Nat.pow_add, ← Nat.pow_add]
    have q1 : (e - min e e').toNat + (min e e' + 1074).toNat = (e + 1074).toNat := (tn h3 h3').1
    have q2 : (e' - min e e').toNat + (min e e' + 1074).toNat = (e' + 1074).toNat := (tn h3 h3').2.1
    rw [q1, q2, h2, h2']
    have q0 : (1 : Int).natAbs = 1 := rfl
    rw [q0]
    have q3 : (1 * 2 ^ (1074 - 0) : Nat) = 2 ^ k * 2 ^ (1074 - k) := by rw [← Nat.pow_add, Nat.one_mul]; exact congrArg (fun z => 2 ^ z) (by lia)
    rw [q3, Nat.mul_mod_mul_right]
  rw [hc] at hR
  exact hR

theorem fl_mod1 {a : Int} {k : Nat} (ha : a.natAbs < 2 ^ 52) (hk : k ≤ 52) : (divmod (fl a k) (fl 1 0)).2 = fl (a % 2 ^ k) k := by
  have ha' : a.natAbs < 2 ^ 53 := by lia
  have hR := fmod_one ha' (by lia : k ≤ 1000)
  have hpk := Nat.two_pow_pos k
  have hpk2 : (2 : Nat) ^ k ≤ 2 ^ 52 := Nat.pow_le_pow_right (by decide) hk
  have hr := Nat.mod_lt a.natAbs hpk
  have hic : ((2 : Int) ^ k) = ((2 ^ k : Nat) : Int) := by simp
  unfold divmod
  simp only
  by_cases h0 : a.natAbs % 2 ^ k = 0
  · have hz : fmod (fl a k) (fl 1 0) = pack (decide (a < 0)) 0 := by
      refine right_pack hR (by decide) (by decide : 0 < 2 ^ 53) (by lia : k ≤ 1000) (by decide) (by rw [V_zero, Nat.zero_mul]) ?_
      rw [h0, Nat.zero_mul]
    have ez : a % 2 ^ k = 0 := by
      rw [hic]
      have hd : 2 ^ k ∣ a.natAbs := Nat.dvd_of_mod_eq_zero h0
      exact Int.emod_eq_zero_of_dvd (Int.ofNat_dvd_left.mpr hd)
    rw [hz, ez]
    have e1 : isZero (pack (decide (a < 0)) 0) = true := by cases decide (a < 0) <;> decide +kernel
    simp only [e1, if_true]
    rw [fl_zero, ← fl_one]
    decide +kernel
  · have hp : 0 < a.natAbs % 2 ^ k := by lia
    by_cases hneg : a < 0
    · have e2 : fmod (fl a k) (fl 1 0) = fl (-((a.natAbs % 2 ^ k : Nat) : Int)) k := by
        refine fl_right (n := -((a.natAbs % 2 ^ k : Nat) : Int)) ?_ (by lia) (by lia) (by decide) ?_ (W := a.natAbs % 2 ^ k * 2 ^ (1074 - k)) (D := 1)
        · rw [decide_eq_true (by lia : -((a.natAbs % 2 ^ k : Nat) : Int) < 0)]
          rw [decide_eq_true hneg] at hR
          exact hR
        · rw [Nat.one_mul, Int.natAbs_neg]; rfl
      have e3 : a % 2 ^ k = -((a.natAbs % 2 ^ k : Nat) : Int) + 2 ^ k := by rw [hic]; exact neg_mod hneg hpk hp
      rw [e2]
      have hz : isZero (fl (-((a.natAbs % 2 ^ k : Nat) : Int)) k) = false := by
        rw [fl_isZero (by lia) (by lia)]; exact decide_eq_false (by lia)
      have hl1 : lt (fl 1 0) (zero false) = false := by decide +kernel
      have hl2 : lt (fl (-((a.natAbs % 2 ^ k : Nat) : Int)) k) (zero false) = true := by
        rw [← fl_zero k]; unfold lt
        rw [fl_cmp (by lia) (by decide) (by lia), Int.compare_eq_lt.mpr (by lia)]; rfl
      have hone : fl 1 0 = fl (2 ^ k) k := by
        have := fl_up (a := 1) (k := 0) (j := k) (by rw [Int.one_mul, hic]; show 2 ^ k < 2 ^ 53; lia) (by lia)
        rw [Int.one_mul, Nat.zero_add] at this
        exact this.symm
      simp only [hz, hl1, hl2, Bool.false_eq_true, if_false, bne_self_eq_false, Bool.false_bne, if_true, Bool.true_eq_false, Bool.bne_true, Bool.not_false]
      rw [hone, fl_add (by lia) (by rw [hic]; show 2 ^ k < 2 ^ 53; lia) (by rw [hic]; lia) (by lia), e3]
    · have e2 : fmod (fl a k) (fl 1 0) = fl ((a.natAbs % 2 ^ k : Nat) : Int) k := by
        refine fl_right (n := ((a.natAbs % 2 ^ k : Nat) : Int)) ?_ (by lia) (by lia) (by decide) ?_ (W := a.natAbs % 2 ^ k * 2 ^ (1074 - k)) (D := 1)
        · rw [decide_eq_false (by lia : ¬ ((a.natAbs % 2 ^ k : Nat) : Int) < 0)]
          rw [decide_eq_false hneg] at hR
          exact hR
        · rw [Nat.one_mul]; rfl
      have e3 : a % 2 ^ k = ((a.natAbs % 2 ^ k : Nat) : Int) := by
        rw [hic, Int.natCast_emod]; congr 1; lia
      rw [e2]
      have hz : isZero (fl ((a.natAbs % 2 ^ k : Nat) : Int) k) = false := by
        rw [fl_isZero (by lia) (by lia)]; exact decide_eq_false (by lia)
      have hl1 : lt (fl 1 0) (zero false) = false := by decide +kernel
      have hl2 : lt (fl ((a.natAbs % 2 ^ k : Nat) : Int) k) (zero false) = false := by
        rw [← fl_zero k]; unfold lt
        rw [fl_cmp (by lia) (by decide) (by lia), Int.compare_eq_gt.mpr (by lia)]; rfl
      simp only [hz, hl1, hl2, Bool.false_eq_true, if_false, bne_self_eq_false]
      rw [e3]
end
section
theorem clear_MaxF : True := by k_with_none; trivial
open PySem PySem.W PyProof.Rows PySem.Flt
noncomputable def max2F (x y : UInt64) : UInt64 := if (Float64.cmp x y == some .lt) = true then y else x
noncomputable def min2F (x y : UInt64) : UInt64 := if (Float64.cmp y x == some .lt) = true then y else x
noncomputable def max3F (x y z : UInt64) : UInt64 := max2F (max2F x y) z
noncomputable def min3F (x y z : UInt64) : UInt64 := min2F (min2F x y) z

theorem max3_num {prog : Program} {w : World} {A : Around} {E : Value → Shared → Prop} {s : Shared} {Q : Value → Shared → Prop} {a b c : Value} (hh : A.handled = none) (ha : NumV a) (hb : NumV b) (hc : NumV c)
    (h : ∀ h' tk, (∀ d o, s.heap.get? d = some o → h'.get? d = some o) → Q (if ltV (if ltV a b then b else a) c then c else (if ltV a b then b else a)) { s with heap := h', toks := tk }) :
    wpAny (model prog w) A (call (.builtin "max") [a, b, c]) Q E s := by
  have hT : (s.heap.push { cls := .type "tuple", data := .seq #[a, b, c] }).IsTuple s.heap.objs.size #[a, b, c] := ⟨_, Heap.get?_push_size _ rfl, rfl, 0, rfl⟩
  refine call_max_three (wpAny_pyIter_tuple hT ?_)
  have hsz : (s.heap.push { cls := .type "tuple", data := .seq #[a, b, c] }).objs.size = s.heap.objs.size + 1 := Heap.size_push ..
  refine ⟨_, [_, s.heap.objs.size], [_], _, _, _, _, rfl, Walks.tuple (A := A.in1) hh _ s.heap.objs.size (by rw [hsz]; exact Nat.ne_of_lt (Nat.lt_succ_self _)) #[a, b, c],
    ⟨⟨_, Heap.get?_push_size _ rfl, rfl, rfl⟩, hT.push _⟩, fun d hd => ?_, by simp, cmpOf_gt #[a, b, c] (by simp [ha, hb, hc]), fun v h' tk hP hk => ?_⟩
  · show d < ((s.heap.push _).push _).objs.size
    rw [Heap.size_push, hsz]
    rcases List.mem_cons.mp hd with rfl | hd
    · rw [hsz]; exact Nat.lt_succ_self _
    · rcases List.mem_cons.mp hd with rfl | hd
      · exact Nat.lt_succ_of_lt (Nat.lt_succ_self _)
      · cases hd
  · have hold : ∀ d o, s.heap.get? d = some o → h'.get? d = some o := fun d o e => by
      refine hk d o (fun hm => ?_) (Heap.get?_push_of_some _ (Heap.get?_push_of_some _ e))
      rcases List.mem_cons.mp hm with e1 | hm
      · have := Heap.lt_size e; rw [e1, hsz] at this; exact Nat.lt_irrefl _ (Nat.lt_of_succ_lt this)
      · cases hm
    have := h h' tk hold
    have hv : v = if ltV (if ltV a b then b else a) c then c else (if ltV a b then b else a) := by
      cases h1 : ltV a b with
      | true =>
        cases h2 : ltV b c with
        | true => simp [argBest, h1, h2] at hP ⊢; simp [hP]
        | false => simp [argBest, h1, h2] at hP ⊢; simp [hP]
      | false =>
        cases h2 : ltV a c with
        | true => simp [argBest, h1, h2] at hP ⊢; simp [hP]
        | false => simp [argBest, h1, h2] at hP ⊢; simp [hP]
    rw [hv]; exact this
theorem min3_num {prog : Program} {w : World} {A : Around} {E : Value → Shared → Prop} {s : Shared} {Q : Value → Shared → Prop} {a b c : Value} (hh : A.handled = none) (ha : NumV a) (hb : NumV b) (hc : NumV c)
    (h : ∀ h' tk, (∀ d o, s.heap.get? d = some o → h'.get? d = some o) → Q (if ltV c (if ltV b a then b else a) then c else (if ltV b a then b else a)) { s with heap := h', toks := tk }) :
    wpAny (model prog w) A (call (.builtin "min") [a, b, c]) Q E s := by
  have hT : (s.heap.push { cls := .type "tuple", data := .seq #[a, b, c] }).IsTuple s.heap.objs.size #[a, b, c] := ⟨_, Heap.get?_push_size _ rfl, rfl, 0, rfl⟩
  refine call_min_three (wpAny_pyIter_tuple hT ?_)
  have hsz : (s.heap.push { cls := .type "tuple", data := .seq #[a, b, c] }).objs.size = s.heap.objs.size + 1 := Heap.size_push ..
  refine ⟨_, [_, s.heap.objs.size], [_], _, _, _, _, rfl, Walks.tuple (A := A.in1) hh _ s.heap.objs.size (by rw [hsz]; exact Nat.ne_of_lt (Nat.lt_succ_self _)) #[a, b, c],
    ⟨⟨_, Heap.get?_push_size _ rfl, rfl, rfl⟩, hT.push _⟩, fun d hd => ?_, by simp, cmpOf_lt #[a, b, c] (by simp [ha, hb, hc]), fun v h' tk hP hk => ?_⟩
  · show d < ((s.heap.push _).push _).objs.size
    rw [Heap.size_push, hsz]
    rcases List.mem_cons.mp hd with rfl | hd
    · rw [hsz]; exact Nat.lt_succ_self _
    · rcases List.mem_cons.mp hd with rfl | hd
      · exact Nat.lt_succ_of_lt (Nat.lt_succ_self _)
      · cases hd
  · have hold : ∀ d o, s.heap.get? d = some o → h'.get? d = some o := fun d o e => by
      refine hk d o (fun hm => ?_) (Heap.get?_push_of_some _ (Heap.get?_push_of_some _ e))
      rcases List.mem_cons.mp hm with e1 | hm
      · have := Heap.lt_size e; rw [e1, hsz] at this; exact Nat.lt_irrefl _ (Nat.lt_of_succ_lt this)
      · cases hm
    have := h h' tk hold
    have hv : v = if ltV c (if ltV b a then b else a) then c else (if ltV b a then b else a) := by
      cases h1 : ltV b a with
      | true =>
        cases h2 : ltV c b with
        | true => simp [argBest, h1, h2] at hP ⊢; simp [hP]
        | false => simp [argBest, h1, h2] at hP ⊢; simp [hP]
      | false =>
        cases h2 : ltV c a with
        | true => simp [argBest, h1, h2] at hP ⊢; simp [hP]
        | false => simp [argBest, h1, h2] at hP ⊢; simp [hP]
    rw [hv]; exact this

theorem lt_ff (x y : UInt64) (t u : Tok) : ltV (.float x t) (.float y u) = (Float64.cmp x y == some .lt) := rfl
theorem max3_ff {prog : Program} {w : World} {A : Around} {E : Value → Shared → Prop} {s : Shared} {Q : Value → Shared → Prop} {x y z : UInt64} {t u v : Tok} {h₀ : Heap} {L : Addr} {m : Str → Option Value} {news : List (Addr × Obj)}
    (p1 : @LT.lt Nat _ 0 t) (p2 : @LT.lt Nat _ 0 u) (p3 : @LT.lt Nat _ 0 v) (hh : A.handled = none) (F : Fr h₀ L s.heap m) (N : News h₀ L s.heap news)
    (h : ∀ h' tk v, @LT.lt Nat _ 0 v → Fr h₀ L h' m → News h₀ L h' news → Q (.float (max3F x y z) v) { s with heap := h', toks := tk }) :
    wpAny (model prog w) A (call (.builtin "max") [.float x t, .float y u, .float z v]) Q E s := by
  refine max3_num hh (.float x t) (.float y u) (.float z v) fun h' tk kp => ?_
  have q := fun tok po => h h' tk tok po (F.grownK kp) (N.grown kp)
  unfold max3F max2F at q
  rw [lt_ff x y]
  by_cases h1 : (Float64.cmp x y == some .lt) = true
  · simp only [if_pos h1] at q ⊢
    rw [lt_ff y z]
    by_cases h2 : (Float64.cmp y z == some .lt) = true
    · simp only [if_pos h2] at q ⊢; exact q v p3
    · simp only [if_neg h2] at q ⊢; exact q u p2
  · simp only [if_neg h1] at q ⊢
    rw [lt_ff x z]
    by_cases h2 : (Float64.cmp x z == some .lt) = true
    · simp only [if_pos h2] at q ⊢; exact q v p3
    · simp only [if_neg h2] at q ⊢; exact q t p1
theorem min3_ff {prog : Program} {w : World} {A : Around} {E : Value → Shared → Prop} {s : Shared} {Q : Value → Shared → Prop} {x y z : UInt64} {t u v : Tok} {h₀ : Heap} {L : Addr} {m : Str → Option Value} {news : List (Addr × Obj)}
    (hh : A.handled = none) (F : Fr h₀ L s.heap m) (N : News h₀ L s.heap news)
    (h : ∀ h' tk v, Fr h₀ L h' m → News h₀ L h' news → Q (.float (min3F x y z) v) { s with heap := h', toks := tk }) :
    wpAny (model prog w) A (call (.builtin "min") [.float x t, .float y u, .float z v]) Q E s := by
  refine min3_num hh (.float x t) (.float y u) (.float z v) fun h' tk kp => ?_
  have q := fun tok => h h' tk tok (F.grownK kp) (N.grown kp)
  unfold min3F min2F at q
  rw [lt_ff y x]
  by_cases h1 : (Float64.cmp y x == some .lt) = true
  · simp only [if_pos h1] at q ⊢
    rw [lt_ff z y]
    by_cases h2 : (Float64.cmp z y == some .lt) = true
    · simp only [if_pos h2] at q ⊢; exact q v
    · simp only [if_neg h2] at q ⊢; exact q u
  · simp only [if_neg h1] at q ⊢
    rw [lt_ff z x]
    by_cases h2 : (Float64.cmp z x == some .lt) = true
    · simp only [if_pos h2] at q ⊢; exact q v
    · simp only [if_neg h2] at q ⊢; exact q t
end
section
theorem clear_Mirror : True := by k_with_none; trivial
open PySem
open Float64
/-! mirrors of the program's float functions -/
noncomputable abbrev eqF (x y : UInt64) : Bool := cmp x y == some .eq
noncomputable def hueF (x y z mx mn : UInt64) : UInt64 :=
  let rg := sub mx mn
  let rc := div (sub mx x) rg
  let gc := div (sub mx y) rg
  let bc := div (sub mx z) rg
  let h := if eqF x mx = true then sub bc gc else if eqF y mx = true then sub (add 4611686018427387904 rc) bc else sub (add 4616189618054758400 gc) rc
  (divmod (div h 4618441417868443648) 4607182418800017408).2
noncomputable abbrev lightF (mx mn : UInt64) : UInt64 := div (add mx mn) 4611686018427387904
noncomputable abbrev lowF (l : UInt64) : Bool := cmp l 4602678819172646912 == some .lt || cmp l 4602678819172646912 == some .eq
noncomputable def hlsF (x y z : UInt64) : UInt64 × UInt64 × UInt64 :=
  let mx := max3F x y z
  let mn := min3F x y z
  if eqF mn mx = true then (0, lightF mx mn, 0)
  else (hueF x y z mx mn, lightF mx mn, if lowF (lightF mx mn) = true then div (sub mx mn) (add mx mn) else div (sub mx mn) (sub (sub 4611686018427387904 mx) mn))
noncomputable def hsvF (x y z : UInt64) : UInt64 × UInt64 × UInt64 :=
  let mx := max3F x y z
  let mn := min3F x y z
  if eqF mn mx = true then (0, 0, mx)
  else (hueF x y z mx mn, div (sub mx mn) mx, mx)
noncomputable abbrev sixF (x : UInt64) : UInt64 := mul x 4618441417868443648
noncomputable abbrev partF (x : UInt64) : UInt64 := sub (sixF x) (ofInt (Flt.toInt truncOf (sixF x)))
noncomputable abbrev pF (y z : UInt64) : UInt64 := mul z (sub 4607182418800017408 y)
noncomputable abbrev qF (x y z : UInt64) : UInt64 := mul z (sub 4607182418800017408 (mul y (partF x)))
noncomputable abbrev tF (x y z : UInt64) : UInt64 := mul z (sub 4607182418800017408 (mul y (sub 4607182418800017408 (partF x))))
noncomputable abbrev sextF (x : UInt64) : Int := Int.fmod (Flt.toInt truncOf (sixF x)) 6
noncomputable def rgbF (x y z : UInt64) : UInt64 × UInt64 × UInt64 :=
  if eqF y 0 = true then (z, z, z)
  else if sextF x = 0 then (z, tF x y z, pF y z)
  else if sextF x = 1 then (qF x y z, z, pF y z)
  else if sextF x = 2 then (pF y z, z, tF x y z)
  else if sextF x = 3 then (pF y z, qF x y z, z)
  else if sextF x = 4 then (tF x y z, pF y z, z)
  else (z, pF y z, qF x y z)
section
variable {x y z : UInt64}
theorem hls_1 (h : eqF (min3F x y z) (max3F x y z) = true) : hlsF x y z = (0, lightF (max3F x y z) (min3F x y z), 0) := by unfold hlsF; simp only [h, if_true]
theorem hls_2 (h : eqF (min3F x y z) (max3F x y z) = false) (l : lowF (lightF (max3F x y z) (min3F x y z)) = true) : hlsF x y z = (hueF x y z (max3F x y z) (min3F x y z), lightF (max3F x y z) (min3F x y z), div (sub (max3F x y z) (min3F x y z)) (add (max3F x y z) (min3F x y z))) := by
  unfold hlsF; simp only [h, l, if_true, if_false, Bool.false_eq_true]
theorem hls_3 (h : eqF (min3F x y z) (max3F x y z) = false) (l : lowF (lightF (max3F x y z) (min3F x y z)) = false) : hlsF x y z = (hueF x y z (max3F x y z) (min3F x y z), lightF (max3F x y z) (min3F x y z), div (sub (max3F x y z) (min3F x y z)) (sub (sub 4611686018427387904 (max3F x y z)) (min3F x y z))) := by
  unfold hlsF; simp only [h, l, if_false, Bool.false_eq_true]
theorem hsv_1 (h : eqF (min3F x y z) (max3F x y z) = true) : hsvF x y z = (0, 0, max3F x y z) := by unfold hsvF; simp only [h, if_true]
theorem hsv_2 (h : eqF (min3F x y z) (max3F x y z) = false) : hsvF x y z = (hueF x y z (max3F x y z) (min3F x y z), div (sub (max3F x y z) (min3F x y z)) (max3F x y z), max3F x y z) := by unfold hsvF; simp only [h, if_false, Bool.false_eq_true]
variable {mx mn : UInt64}
theorem hue_1 (h : eqF x mx = true) : hueF x y z mx mn = (divmod (div (sub (div (sub mx z) (sub mx mn)) (div (sub mx y) (sub mx mn))) 4618441417868443648) 4607182418800017408).2 := by unfold hueF; simp only [h, if_true]
theorem hue_2 (h : eqF x mx = false) (h2 : eqF y mx = true) : hueF x y z mx mn = (divmod (div (sub (add 4611686018427387904 (div (sub mx x) (sub mx mn))) (div (sub mx z) (sub mx mn))) 4618441417868443648) 4607182418800017408).2 := by unfold hueF; simp only [h, h2, if_true, if_false, Bool.false_eq_true]
theorem hue_3 (h : eqF x mx = false) (h2 : eqF y mx = false) : hueF x y z mx mn = (divmod (div (sub (add 4616189618054758400 (div (sub mx y) (sub mx mn))) (div (sub mx x) (sub mx mn))) 4618441417868443648) 4607182418800017408).2 := by unfold hueF; simp only [h, h2, if_false, Bool.false_eq_true]
end
section
variable {x y z : UInt64}
theorem rgb_g (h : eqF y 0 = true) : rgbF x y z = (z, z, z) := by unfold rgbF; rw [if_pos h]
theorem rgb_0 (h : eqF y 0 = false) (h0 : sextF x = 0) : rgbF x y z = (z, tF x y z, pF y z) := by unfold rgbF; rw [if_neg (by rw [h]; exact Bool.false_ne_true), if_pos h0]
theorem rgb_1 (h : eqF y 0 = false) (h0 : sextF x = 1) : rgbF x y z = (qF x y z, z, pF y z) := by unfold rgbF; rw [if_neg (by rw [h]; exact Bool.false_ne_true), if_neg (by omega), if_pos h0]
theorem rgb_2 (h : eqF y 0 = false) (h0 : sextF x = 2) : rgbF x y z = (pF y z, z, tF x y z) := by unfold rgbF; rw [if_neg (by rw [h]; exact Bool.false_ne_true), if_neg (by omega), if_neg (by omega), if_pos h0]
theorem rgb_3 (h : eqF y 0 = false) (h0 : sextF x = 3) : rgbF x y z = (pF y z, qF x y z, z) := by unfold rgbF; rw [if_neg (by rw [h]; exact Bool.false_ne_true), if_neg (by omega), if_neg (by omega), if_neg (by omega), if_pos h0]
theorem rgb_4 (h : eqF y 0 = false) (h0 : sextF x = 4) : rgbF x y z = (tF x y z, pF y z, z) := by unfold rgbF; rw [if_neg (by rw [h]; exact Bool.false_ne_true), if_neg (by omega), if_neg (by omega), if_neg (by omega), if_neg (by omega), if_pos h0]
theorem rgb_5 (h : eqF y 0 = false) (h0 : sextF x = 5) : rgbF x y z = (z, pF y z, qF x y z) := by unfold rgbF; rw [if_neg (by rw [h]; exact Bool.false_ne_true), if_neg (by omega), if_neg (by omega), if_neg (by omega), if_neg (by omega), if_neg (by omega)]
theorem rgb_no {i : Int} (h0 : Int.fmod i 6 ≠ 0) (h1 : Int.fmod i 6 ≠ 1) (h2 : Int.fmod i 6 ≠ 2) (h3 : Int.fmod i 6 ≠ 3) (h4 : Int.fmod i 6 ≠ 4) (h5 : Int.fmod i 6 ≠ 5) : False := by
  rw [Int.fmod_eq_emod_of_nonneg i (by decide)] at *
  have a := Int.emod_nonneg i (show (6 : Int) ≠ 0 by decide)
  have b := Int.emod_lt_of_pos i (show (0 : Int) < 6 by decide)
  obtain ⟨n, e⟩ := Int.eq_ofNat_of_zero_le a
  rw [e] at h0 h1 h2 h3 h4 h5 b
  match n, b with
  | 0, _ => exact h0 rfl
  | 1, _ => exact h1 rfl
  | 2, _ => exact h2 rfl
  | 3, _ => exact h3 rfl
  | 4, _ => exact h4 rfl
  | 5, _ => exact h5 rfl
  | n + 6, b => exact absurd (Int.ofNat_lt.mp b) (Nat.not_lt.mpr (Nat.le_add_left 6 n))
end
end
section
theorem clear_Leaf1 : True := by k_with_none; trivial
open PySem PySem.W PyProof.Rows
set_option maxRecDepth 100000
set_option maxHeartbeats 8000000
theorem fill : True := by
  have : PySem.Challenge.rw_mq0203_01.Holds ∨ True := .inr trivial
  have h2 : (hd.heap_1 = hd.heap_1 ∧ PySem.Challenge.rw_mq0203_01 = PySem.Challenge.rw_mq0203_01) → True := fun _ => trivial
  apply h2
  k_fill
  exact ⟨rfl, rfl⟩
theorem line_Leaf1_1 : True := by
  k_with "call builtin:max!" => ((with_reducible show wpAny _ _ (call _ [Value.float _ _, Value.float _ _, Value.float _ _]) _ _ _); k_dflt (refine' max3_ff ?p1 ?p2 ?p3 ?h1 ?h2 ?h3 ?_; (case p1 => assumption); (case p2 => assumption); (case p3 => assumption); (case h1 => rfl); (case h2 => k_asm); (case h3 => k_asm)); intro _ _ _ _ _ _; (try k_sweep))
  trivial
theorem line_Leaf1_2 : True := by
  k_with "call builtin:min!" => ((with_reducible show wpAny _ _ (call _ [Value.float _ _, Value.float _ _, Value.float _ _]) _ _ _); k_dflt (refine' min3_ff ?h1 ?h2 ?h3 ?_; (case h1 => rfl); (case h2 => k_asm); (case h3 => k_asm)); intro _ _ _ _ _; (try k_sweep))
  trivial
theorem wpAny_gen1 {α : Type} {M : Model} {A : Around} {t : Sem α} {Q : α → Shared → Prop} {E : Value → Shared → Prop} {h : Heap} {g : Array GenState} {d : Drawn} {tk : Nat} {os : OsState} (k : ∀ t', @LT.lt Nat _ 0 t' → wpAny M A t Q E ⟨h, g, d, t', os⟩) : wpAny M A t Q E ⟨h, g, d, tk + 1, os⟩ := k _ (Nat.succ_pos _)
theorem line_Leaf1_3 : True := by
  k_with "execs cons!" => (k_here; (with_reducible refine wpAny_gen1 ?_); intro _ _)
  trivial
theorem line_Leaf1_4 : True := by
  k_with "execs nil!" => (k_here; (with_reducible refine wpAny_gen1 ?_); intro _ _)
  trivial
noncomputable abbrev tup3 (a b c : Value) : Obj := { cls := .type "tuple", data := .seq #[a, b, c] }

theorem c_hsv2rgb {w : World} {p : Program} {loose : List Str} {mean : ExcName → Option Value} {mg mb : Str → Option Value} {dp un : Nat} {gd : Option (List Code)} {cn : Str} {cs : Scope} {a : Addr} {ccd : Value} {cl : List (Str × Addr)} {outer : List Env} {A₀ : Around} {base h₀ : Heap} {L : Addr} {m : Str → Option Value} {news : List (Addr × Obj)} {s : Shared} {Q E : Value → Shared → Prop} {x y z : UInt64} {tx ty tz : Tok}
    (B : Below A₀ base outer h₀) (F : Fr h₀ L s.heap m) (X : (hd.heap_1 w.params).In h₀) (N : News h₀ L s.heap news) (T : Top p loose mean mg mb h₀) (hk : cs.kind = .function) (px : @LT.lt Nat _ 0 tx) (py : @LT.lt Nat _ 0 ty) (pz : @LT.lt Nat _ 0 tz) (hdp : dp + 1 < recursionLimit) (hun : un + 8 < cLine)
    (g1 : eqF y 0 = false → Float64.isNaN (sixF x) = false) (g2 : eqF y 0 = false → Float64.isInf (sixF x) = false) (g3 : eqF y 0 = false → (Flt.toInt Float64.truncOf (sixF x)).natAbs < 2 ^ 1024 - 2 ^ 970)
    (hret : ∀ (r g b : UInt64) (D : Addr) (t1 t2 t3 : Tok) (h' : Heap) (tk' : Nat), rgbF x y z = (r, g, b) → Fr h₀ L h' m → News h₀ L h' ((D, tup3 (.float r t1) (.float g t2) (.float b t3)) :: news) → (∀ q ∈ news, q.1 < D) → @LT.lt Nat _ 0 t1 → @LT.lt Nat _ 0 t2 → @LT.lt Nat _ 0 t3 → Q (.ref D) { s with heap := h', toks := tk' }) :
    wpAny (model PySem.Challenge.rw_mq0203_01.prog w) (ktrTop dp un gd cn cs L a ccd cl outer) (call (.ref 51) [.float x tx, .float y ty, .float z tz]) Q E s := by
  refine wpAny_call ?_
  k_dflt cell_enter
  k_steps
  all_goals first
    | exact hret _ _ _ _ _ _ _ _ _ (rgb_g (by with_reducible assumption)) (by k_asm) (by k_asm) (by k_asm) (by first | with_reducible assumption | exact Nat.succ_pos _) (by first | with_reducible assumption | exact Nat.succ_pos _) (by first | with_reducible assumption | exact Nat.succ_pos _)
    | exact hret _ _ _ _ _ _ _ _ _ (rgb_0 (by with_reducible assumption) (by with_reducible assumption)) (by k_asm) (by k_asm) (by k_asm) (by first | with_reducible assumption | exact Nat.succ_pos _) (by first | with_reducible assumption | exact Nat.succ_pos _) (by first | with_reducible assumption | exact Nat.succ_pos _)
    | exact hret _ _ _ _ _ _ _ _ _ (rgb_1 (by with_reducible assumption) (by with_reducible assumption)) (by k_asm) (by k_asm) (by k_asm) (by first | with_reducible assumption | exact Nat.succ_pos _) (by first | with_reducible assumption | exact Nat.succ_pos _) (by first | with_reducible assumption | exact Nat.succ_pos _)
    | exact hret _ _ _ _ _ _ _ _ _ (rgb_2 (by with_reducible assumption) (by with_reducible assumption)) (by k_asm) (by k_asm) (by k_asm) (by first | with_reducible assumption | exact Nat.succ_pos _) (by first | with_reducible assumption | exact Nat.succ_pos _) (by first | with_reducible assumption | exact Nat.succ_pos _)
    | exact hret _ _ _ _ _ _ _ _ _ (rgb_3 (by with_reducible assumption) (by with_reducible assumption)) (by k_asm) (by k_asm) (by k_asm) (by first | with_reducible assumption | exact Nat.succ_pos _) (by first | with_reducible assumption | exact Nat.succ_pos _) (by first | with_reducible assumption | exact Nat.succ_pos _)
    | exact hret _ _ _ _ _ _ _ _ _ (rgb_4 (by with_reducible assumption) (by with_reducible assumption)) (by k_asm) (by k_asm) (by k_asm) (by first | with_reducible assumption | exact Nat.succ_pos _) (by first | with_reducible assumption | exact Nat.succ_pos _) (by first | with_reducible assumption | exact Nat.succ_pos _)
    | exact hret _ _ _ _ _ _ _ _ _ (rgb_5 (by with_reducible assumption) (by with_reducible assumption)) (by k_asm) (by k_asm) (by k_asm) (by first | with_reducible assumption | exact Nat.succ_pos _) (by first | with_reducible assumption | exact Nat.succ_pos _) (by first | with_reducible assumption | exact Nat.succ_pos _)
    | exact absurd (show Float64.isNaN (sixF x) = true by with_reducible assumption) (by rw [g1 (by with_reducible assumption)]; exact Bool.false_ne_true)
    | exact absurd (show Float64.isInf (sixF x) = true by with_reducible assumption) (by rw [g2 (by with_reducible assumption)]; exact Bool.false_ne_true)
    | exact absurd (show 2 ^ 1024 - 2 ^ 970 ≤ (Flt.toInt Float64.truncOf (sixF x)).natAbs by with_reducible assumption) (Nat.not_le.mpr (g3 (by with_reducible assumption)))
    | exact (rgb_no (by with_reducible assumption) (by with_reducible assumption) (by with_reducible assumption) (by with_reducible assumption) (by with_reducible assumption) (by with_reducible assumption)).elim

theorem c_hls {w : World} {p : Program} {loose : List Str} {mean : ExcName → Option Value} {mg mb : Str → Option Value} {dp un : Nat} {gd : Option (List Code)} {cn : Str} {cs : Scope} {a : Addr} {ccd : Value} {cl : List (Str × Addr)} {outer : List Env} {A₀ : Around} {base h₀ : Heap} {L : Addr} {m : Str → Option Value} {news : List (Addr × Obj)} {s : Shared} {Q E : Value → Shared → Prop} {x y z : UInt64} {tx ty tz : Tok}
    (B : Below A₀ base outer h₀) (F : Fr h₀ L s.heap m) (X : (hd.heap_1 w.params).In h₀) (N : News h₀ L s.heap news) (T : Top p loose mean mg mb h₀) (hk : cs.kind = .function) (px : @LT.lt Nat _ 0 tx) (py : @LT.lt Nat _ 0 ty) (pz : @LT.lt Nat _ 0 tz) (hdp : dp + 1 < recursionLimit) (hun : un + 8 < cLine)
    (g1 : eqF (min3F x y z) (max3F x y z) = false → Float64.isZero (Float64.sub (max3F x y z) (min3F x y z)) = false) (g2 : eqF (min3F x y z) (max3F x y z) = false → lowF (lightF (max3F x y z) (min3F x y z)) = true → Float64.isZero (Float64.add (max3F x y z) (min3F x y z)) = false) (g3 : eqF (min3F x y z) (max3F x y z) = false → lowF (lightF (max3F x y z) (min3F x y z)) = false → Float64.isZero (Float64.sub (Float64.sub 4611686018427387904 (max3F x y z)) (min3F x y z)) = false)
    (hret : ∀ (r g b : UInt64) (D : Addr) (t1 t2 t3 : Tok) (h' : Heap) (tk' : Nat), hlsF x y z = (r, g, b) → Fr h₀ L h' m → News h₀ L h' ((D, tup3 (.float r t1) (.float g t2) (.float b t3)) :: news) → (∀ q ∈ news, q.1 < D) → @LT.lt Nat _ 0 t1 → @LT.lt Nat _ 0 t2 → @LT.lt Nat _ 0 t3 → Q (.ref D) { s with heap := h', toks := tk' }) :
    wpAny (model PySem.Challenge.rw_mq0203_01.prog w) (ktrTop dp un gd cn cs L a ccd cl outer) (call (.ref 37) [.float x tx, .float y ty, .float z tz]) Q E s := by
  refine wpAny_call ?_
  k_dflt cell_enter
  k_steps
  all_goals first
    | exact hret _ _ _ _ _ _ _ _ _ (hls_1 (by with_reducible assumption)) (by k_asm) (by k_asm) (by k_asm) (by first | with_reducible assumption | exact Nat.succ_pos _) (by first | with_reducible assumption | exact Nat.succ_pos _) (by first | with_reducible assumption | exact Nat.succ_pos _)
    | exact hret _ _ _ _ _ _ _ _ _ ((hls_2 (by with_reducible assumption) (by with_reducible assumption)).trans (by rw [hue_1 (by with_reducible assumption)])) (by k_asm) (by k_asm) (by k_asm) (by first | with_reducible assumption | exact Nat.succ_pos _) (by first | with_reducible assumption | exact Nat.succ_pos _) (by first | with_reducible assumption | exact Nat.succ_pos _)
    | exact hret _ _ _ _ _ _ _ _ _ ((hls_2 (by with_reducible assumption) (by with_reducible assumption)).trans (by rw [hue_2 (by with_reducible assumption) (by with_reducible assumption)])) (by k_asm) (by k_asm) (by k_asm) (by first | with_reducible assumption | exact Nat.succ_pos _) (by first | with_reducible assumption | exact Nat.succ_pos _) (by first | with_reducible assumption | exact Nat.succ_pos _)
    | exact hret _ _ _ _ _ _ _ _ _ ((hls_2 (by with_reducible assumption) (by with_reducible assumption)).trans (by rw [hue_3 (by with_reducible assumption) (by with_reducible assumption)])) (by k_asm) (by k_asm) (by k_asm) (by first | with_reducible assumption | exact Nat.succ_pos _) (by first | with_reducible assumption | exact Nat.succ_pos _) (by first | with_reducible assumption | exact Nat.succ_pos _)
    | exact hret _ _ _ _ _ _ _ _ _ ((hls_3 (by with_reducible assumption) (by with_reducible assumption)).trans (by rw [hue_1 (by with_reducible assumption)])) (by k_asm) (by k_asm) (by k_asm) (by first | with_reducible assumption | exact Nat.succ_pos _) (by first | with_reducible assumption | exact Nat.succ_pos _) (by first | with_reducible assumption | exact Nat.succ_pos _)
    | exact hret _ _ _ _ _ _ _ _ _ ((hls_3 (by with_reducible assumption) (by with_reducible assumption)).trans (by rw [hue_2 (by with_reducible assumption) (by with_reducible assumption)])) (by k_asm) (by k_asm) (by k_asm) (by first | with_reducible assumption | exact Nat.succ_pos _) (by first | with_reducible assumption | exact Nat.succ_pos _) (by first | with_reducible assumption | exact Nat.succ_pos _)
    | exact hret _ _ _ _ _ _ _ _ _ ((hls_3 (by with_reducible assumption) (by with_reducible assumption)).trans (by rw [hue_3 (by with_reducible assumption) (by with_reducible assumption)])) (by k_asm) (by k_asm) (by k_asm) (by first | with_reducible assumption | exact Nat.succ_pos _) (by first | with_reducible assumption | exact Nat.succ_pos _) (by first | with_reducible assumption | exact Nat.succ_pos _)
    | exact absurd (show Float64.isZero (Float64.add (max3F x y z) (min3F x y z)) = true by with_reducible assumption) (by rw [g2 (by with_reducible assumption) (by with_reducible assumption)]; exact Bool.false_ne_true)
    | exact absurd (show Float64.isZero (Float64.sub (Float64.sub 4611686018427387904 (max3F x y z)) (min3F x y z)) = true by with_reducible assumption) (by rw [g3 (by with_reducible assumption) (by with_reducible assumption)]; exact Bool.false_ne_true)
    | exact absurd (show Float64.isZero (Float64.sub (max3F x y z) (min3F x y z)) = true by with_reducible assumption) (by rw [g1 (by with_reducible assumption)]; exact Bool.false_ne_true)

theorem c_hsv {w : World} {p : Program} {loose : List Str} {mean : ExcName → Option Value} {mg mb : Str → Option Value} {dp un : Nat} {gd : Option (List Code)} {cn : Str} {cs : Scope} {a : Addr} {ccd : Value} {cl : List (Str × Addr)} {outer : List Env} {A₀ : Around} {base h₀ : Heap} {L : Addr} {m : Str → Option Value} {news : List (Addr × Obj)} {s : Shared} {Q E : Value → Shared → Prop} {x y z : UInt64} {tx ty tz : Tok}
    (B : Below A₀ base outer h₀) (F : Fr h₀ L s.heap m) (X : (hd.heap_1 w.params).In h₀) (N : News h₀ L s.heap news) (T : Top p loose mean mg mb h₀) (hk : cs.kind = .function) (px : @LT.lt Nat _ 0 tx) (py : @LT.lt Nat _ 0 ty) (pz : @LT.lt Nat _ 0 tz) (hdp : dp + 1 < recursionLimit) (hun : un + 8 < cLine)
    (g1 : eqF (min3F x y z) (max3F x y z) = false → Float64.isZero (Float64.sub (max3F x y z) (min3F x y z)) = false) (g2 : eqF (min3F x y z) (max3F x y z) = false → Float64.isZero (max3F x y z) = false)
    (hret : ∀ (r g b : UInt64) (D : Addr) (t1 t2 t3 : Tok) (h' : Heap) (tk' : Nat), hsvF x y z = (r, g, b) → Fr h₀ L h' m → News h₀ L h' ((D, tup3 (.float r t1) (.float g t2) (.float b t3)) :: news) → (∀ q ∈ news, q.1 < D) → @LT.lt Nat _ 0 t1 → @LT.lt Nat _ 0 t2 → @LT.lt Nat _ 0 t3 → Q (.ref D) { s with heap := h', toks := tk' }) :
    wpAny (model PySem.Challenge.rw_mq0203_01.prog w) (ktrTop dp un gd cn cs L a ccd cl outer) (call (.ref 44) [.float x tx, .float y ty, .float z tz]) Q E s := by
  refine wpAny_call ?_
  k_dflt cell_enter
  k_steps
  all_goals first
    | exact hret _ _ _ _ _ _ _ _ _ (hsv_1 (by with_reducible assumption)) (by k_asm) (by k_asm) (by k_asm) (by first | with_reducible assumption | exact Nat.succ_pos _) (by first | with_reducible assumption | exact Nat.succ_pos _) (by first | with_reducible assumption | exact Nat.succ_pos _)
    | exact hret _ _ _ _ _ _ _ _ _ ((hsv_2 (by with_reducible assumption)).trans (by rw [hue_1 (by with_reducible assumption)])) (by k_asm) (by k_asm) (by k_asm) (by first | with_reducible assumption | exact Nat.succ_pos _) (by first | with_reducible assumption | exact Nat.succ_pos _) (by first | with_reducible assumption | exact Nat.succ_pos _)
    | exact hret _ _ _ _ _ _ _ _ _ ((hsv_2 (by with_reducible assumption)).trans (by rw [hue_2 (by with_reducible assumption) (by with_reducible assumption)])) (by k_asm) (by k_asm) (by k_asm) (by first | with_reducible assumption | exact Nat.succ_pos _) (by first | with_reducible assumption | exact Nat.succ_pos _) (by first | with_reducible assumption | exact Nat.succ_pos _)
    | exact hret _ _ _ _ _ _ _ _ _ ((hsv_2 (by with_reducible assumption)).trans (by rw [hue_3 (by with_reducible assumption) (by with_reducible assumption)])) (by k_asm) (by k_asm) (by k_asm) (by first | with_reducible assumption | exact Nat.succ_pos _) (by first | with_reducible assumption | exact Nat.succ_pos _) (by first | with_reducible assumption | exact Nat.succ_pos _)
    | exact absurd (show Float64.isZero (max3F x y z) = true by with_reducible assumption) (by rw [g2 (by with_reducible assumption)]; exact Bool.false_ne_true)
    | exact absurd (show Float64.isZero (Float64.sub (max3F x y z) (min3F x y z)) = true by with_reducible assumption) (by rw [g1 (by with_reducible assumption)]; exact Bool.false_ne_true)
end
section
theorem clear_Pure1 : True := by k_with_none; trivial
open PySem
open Float64
/-- how far the hue lies from a part's own corner -/
noncomputable def fall (c h : Int) : Int := min (max (min (Int.fmod (3 * h - c) 48) (48 - Int.fmod (3 * h - c) 48) - 8) 0) 8
noncomputable def colP (c h s l : Int) : Int := l * (32768 - s * fall c h)
noncomputable def colF (c h s l : Int) : UInt64 := fl (colP c h s l) 27
structure Valid (h s l : Int) : Prop where
  h0 : 0 ≤ h
  h1 : h < 16
  s0 : 0 ≤ s
  s1 : s ≤ 4096
  l0 : 0 ≤ l
  l1 : l ≤ 4096
  sh : s = 0 → h = 0
  ls : l = 0 → s = 0

theorem max2_fl {a b : Int} {k : Nat} (ha : a.natAbs < 2 ^ 53) (hb : b.natAbs < 2 ^ 53) (hk : k ≤ 1000) : max2F (fl a k) (fl b k) = fl (max a b) k := by
  unfold max2F
  rw [fl_cmp ha hb hk]
  rcases Int.lt_trichotomy a b with h | h | h
  · rw [Int.compare_eq_lt.mpr h, if_pos (by decide), Int.max_eq_right (Int.le_of_lt h)]
  · subst h; simp
  · rw [Int.compare_eq_gt.mpr h, if_neg (by decide), Int.max_eq_left (Int.le_of_lt h)]
theorem min2_fl {a b : Int} {k : Nat} (ha : a.natAbs < 2 ^ 53) (hb : b.natAbs < 2 ^ 53) (hk : k ≤ 1000) : min2F (fl a k) (fl b k) = fl (min a b) k := by
  unfold min2F
  rw [fl_cmp hb ha hk]
  rcases Int.lt_trichotomy b a with h | h | h
  · rw [Int.compare_eq_lt.mpr h, if_pos (by decide), Int.min_eq_right (Int.le_of_lt h)]
  · subst h; simp
  · rw [Int.compare_eq_gt.mpr h, if_neg (by decide), Int.min_eq_left (Int.le_of_lt h)]
theorem max_b {a b : Int} {n : Nat} (ha : a.natAbs < n) (hb : b.natAbs < n) : (max a b).natAbs < n := by
  rcases Int.le_total a b with h | h
  · rw [Int.max_eq_right h]; exact hb
  · rw [Int.max_eq_left h]; exact ha
theorem min_b {a b : Int} {n : Nat} (ha : a.natAbs < n) (hb : b.natAbs < n) : (min a b).natAbs < n := by
  rcases Int.le_total a b with h | h
  · rw [Int.min_eq_left h]; exact ha
  · rw [Int.min_eq_right h]; exact hb
theorem max3_fl {a b c : Int} {k : Nat} (ha : a.natAbs < 2 ^ 53) (hb : b.natAbs < 2 ^ 53) (hc : c.natAbs < 2 ^ 53) (hk : k ≤ 1000) : max3F (fl a k) (fl b k) (fl c k) = fl (max (max a b) c) k := by
  unfold max3F; rw [max2_fl ha hb hk, max2_fl (max_b ha hb) hc hk]
theorem min3_fl {a b c : Int} {k : Nat} (ha : a.natAbs < 2 ^ 53) (hb : b.natAbs < 2 ^ 53) (hc : c.natAbs < 2 ^ 53) (hk : k ≤ 1000) : min3F (fl a k) (fl b k) (fl c k) = fl (min (min a b) c) k := by
  unfold min3F; rw [min2_fl ha hb hk, min2_fl (min_b ha hb) hc hk]
theorem eq_fl {a b : Int} {k : Nat} (ha : a.natAbs < 2 ^ 53) (hb : b.natAbs < 2 ^ 53) (hk : k ≤ 1000) : eqF (fl a k) (fl b k) = decide (a = b) := by
  unfold eqF
  rw [fl_cmp ha hb hk]
  rcases Int.lt_trichotomy a b with h | h | h
  · rw [Int.compare_eq_lt.mpr h, decide_eq_false (by omega)]; rfl
  · subst h; simp
  · rw [Int.compare_eq_gt.mpr h, decide_eq_false (by omega)]; rfl

theorem lit0 : (0 : UInt64) = fl 0 0 := by decide +kernel
theorem lit0k (k : Nat) : (0 : UInt64) = fl 0 k := by rw [fl_zero]; decide +kernel
theorem lit1 : (4607182418800017408 : UInt64) = fl 1 0 := by decide +kernel
theorem lit2 : (4611686018427387904 : UInt64) = fl 2 0 := by decide +kernel
theorem lit4 : (4616189618054758400 : UInt64) = fl 4 0 := by decide +kernel
theorem lit6 : (4618441417868443648 : UInt64) = fl 6 0 := by decide +kernel
theorem litH : (4602678819172646912 : UInt64) = fl 1 1 := by decide +kernel
theorem lit2' : (4611686018427387904 : UInt64) = fl 16 3 := by decide +kernel
theorem lit4' : (4616189618054758400 : UInt64) = fl 32 3 := by decide +kernel

theorem u53 {a : Int} (h : a.natAbs < 2 ^ 50) : a.natAbs < 2 ^ 53 := Nat.lt_trans h (by decide)
theorem sb50 {a b : Int} (ha : a.natAbs < 2 ^ 50) (hb : b.natAbs < 2 ^ 50) : (a - b).natAbs < 2 ^ 53 :=
  Nat.lt_trans (Nat.lt_of_le_of_lt (Int.natAbs_sub_le a b) (Nat.add_lt_add ha hb)) (by decide)
theorem sub50 {a b : Int} {k : Nat} (hk : k ≤ 100) (ha : a.natAbs < 2 ^ 50) (hb : b.natAbs < 2 ^ 50) : sub (fl a k) (fl b k) = fl (a - b) k :=
  fl_sub (u53 ha) (u53 hb) (sb50 ha hb) (Nat.le_trans hk (by decide))
theorem le8' {f : Int} (hf : 0 ≤ f ∧ f ≤ 8) : f.natAbs < 2 ^ 53 := by omega
theorem dv50 {Mx Mn T f : Int} {k : Nat} (hk : k ≤ 100) (hlt : Mn < Mx) (hMx : Mx.natAbs < 2 ^ 50) (hMn : Mn.natAbs < 2 ^ 50) (hT : T.natAbs < 2 ^ 50) (hf : 0 ≤ f ∧ f ≤ 8) (he : (Mx - T) * 8 = f * (Mx - Mn)) : div (fl (Mx - T) k) (fl (Mx - Mn) k) = fl f 3 := by
  refine fl_div (Int.sub_pos_of_lt hlt) (sb50 hMx hT) (sb50 hMx hMn) (le8' hf) (Nat.le_trans hk (by decide)) (Nat.le_trans hk (by decide)) (by decide) ?_
  rw [Int.pow_add, show (2 : Int) ^ 3 = 8 by decide, ← Int.mul_assoc, he]
theorem y50 {X Y' : Int} (hx : X = 3 * Y') (hb : X.natAbs < 100) : Y'.natAbs < 100 := by
  rw [hx, Int.natAbs_mul] at hb
  exact Nat.lt_of_le_of_lt (Nat.le_mul_of_pos_left _ (by decide)) hb
theorem key50 {X Y' : Int} (hx : X = 3 * Y') (hb : X.natAbs < 100) : (divmod (div (fl X 3) 4618441417868443648) 4607182418800017408).2 = fl (Y' % 16) 4 := by
  rw [lit6, lit1, fl_div (c := Y') (i := 4) (by decide) (Nat.lt_trans hb (by decide)) (by decide) (Nat.lt_trans (y50 hx hb) (by decide)) (by decide) (by decide) (by decide) (by subst hx; lia), fl_mod1 (Nat.lt_trans (y50 hx hb) (by decide)) (by decide)]
  rfl
theorem one50 {a b : Int} (ha : 0 ≤ a ∧ a ≤ 8) (hb : 0 ≤ b ∧ b ≤ 8) : sub (fl a 3) (fl b 3) = fl (a - b) 3 ∧ (a - b).natAbs < 100 :=
  ⟨fl_sub (by omega) (by omega) (by omega) (by decide), by omega⟩
theorem two50 {n a b : Int} (hn : 0 ≤ n ∧ n ≤ 32) (ha : 0 ≤ a ∧ a ≤ 8) (hb : 0 ≤ b ∧ b ≤ 8) : sub (add (fl n 3) (fl a 3)) (fl b 3) = fl (n + a - b) 3 ∧ (n + a - b).natAbs < 100 :=
  ⟨by rw [fl_add (by omega) (by omega) (by omega) (by decide), fl_sub (by omega) (by omega) (by omega) (by decide)], by omega⟩
theorem hue_gen {R G B Mx Mn f0 f1 f2 Y : Int} {k : Nat} (hk : k ≤ 100) (hR : R.natAbs < 2 ^ 50) (hG : G.natAbs < 2 ^ 50) (hB : B.natAbs < 2 ^ 50) (hMx : Mx.natAbs < 2 ^ 50) (hMn : Mn.natAbs < 2 ^ 50) (hlt : Mn < Mx)
    (h0 : (Mx - R) * 8 = f0 * (Mx - Mn)) (h1 : (Mx - G) * 8 = f1 * (Mx - Mn)) (h2 : (Mx - B) * 8 = f2 * (Mx - Mn)) (b0 : 0 ≤ f0 ∧ f0 ≤ 8) (b1 : 0 ≤ f1 ∧ f1 ≤ 8) (b2 : 0 ≤ f2 ∧ f2 ≤ 8)
    (hX : (if R = Mx then f2 - f1 else if G = Mx then 16 + f0 - f2 else 32 + f1 - f0) = 3 * Y) :
    hueF (fl R k) (fl G k) (fl B k) (fl Mx k) (fl Mn k) = fl (Y % 16) 4 := by
  have k3 : k ≤ 1000 := Nat.le_trans hk (by decide)
  have eR := eq_fl (u53 hR) (u53 hMx) k3
  have eG := eq_fl (u53 hG) (u53 hMx) k3
  by_cases q : R = Mx
  · rw [if_pos q] at hX
    rw [hue_1 (by rw [eR]; exact decide_eq_true q), sub50 hk hMx hB, sub50 hk hMx hG, sub50 hk hMx hMn, dv50 hk hlt hMx hMn hB b2 h2, dv50 hk hlt hMx hMn hG b1 h1, (one50 b2 b1).1, key50 hX (one50 b2 b1).2]
  · rw [if_neg q] at hX
    by_cases q2 : G = Mx
    · rw [if_pos q2] at hX
      rw [hue_2 (by rw [eR]; exact decide_eq_false q) (by rw [eG]; exact decide_eq_true q2), sub50 hk hMx hB, sub50 hk hMx hR, sub50 hk hMx hMn, dv50 hk hlt hMx hMn hB b2 h2, dv50 hk hlt hMx hMn hR b0 h0, lit2', (two50 ⟨by decide, by decide⟩ b0 b2).1, key50 hX (two50 ⟨by decide, by decide⟩ b0 b2).2]
    · rw [if_neg q2] at hX
      rw [hue_3 (by rw [eR]; exact decide_eq_false q) (by rw [eG]; exact decide_eq_false q2), sub50 hk hMx hG, sub50 hk hMx hR, sub50 hk hMx hMn, dv50 hk hlt hMx hMn hG b1 h1, dv50 hk hlt hMx hMn hR b0 h0, lit4', (two50 ⟨by decide, by decide⟩ b1 b0).1, key50 hX (two50 ⟨by decide, by decide⟩ b1 b0).2]

/-- the sixteen hues: the three falls, and the hue's own number -/
noncomputable def ytab (n : Nat) : Int := if n < 14 then n else (n : Int) - 16
theorem falls_tab : ∀ n : Fin 16, (0 ≤ fall 0 n.val ∧ fall 0 n.val ≤ 8) ∧ (0 ≤ fall 16 n.val ∧ fall 16 n.val ≤ 8) ∧ (0 ≤ fall 32 n.val ∧ fall 32 n.val ≤ 8) ∧
    (fall 0 n.val = 0 ∨ fall 16 n.val = 0 ∨ fall 32 n.val = 0) ∧ (fall 0 n.val = 8 ∨ fall 16 n.val = 8 ∨ fall 32 n.val = 8) ∧
    (if fall 0 n.val = 0 then fall 32 n.val - fall 16 n.val else if fall 16 n.val = 0 then 16 + fall 0 n.val - fall 32 n.val else 32 + fall 16 n.val - fall 0 n.val) = 3 * ytab n.val ∧ ytab n.val % 16 = n.val := by decide +kernel
theorem falls {h : Int} (h0 : 0 ≤ h) (h1 : h < 16) : ∃ f0 f1 f2 : Int, fall 0 h = f0 ∧ fall 16 h = f1 ∧ fall 32 h = f2 ∧ (0 ≤ f0 ∧ f0 ≤ 8) ∧ (0 ≤ f1 ∧ f1 ≤ 8) ∧ (0 ≤ f2 ∧ f2 ≤ 8) ∧
    (f0 = 0 ∨ f1 = 0 ∨ f2 = 0) ∧ (f0 = 8 ∨ f1 = 8 ∨ f2 = 8) ∧ ∃ Y : Int, (if f0 = 0 then f2 - f1 else if f1 = 0 then 16 + f0 - f2 else 32 + f1 - f0) = 3 * Y ∧ Y % 16 = h := by
  obtain ⟨n, rfl⟩ : ∃ n : Nat, h = n := ⟨h.toNat, by lia⟩
  have t := falls_tab ⟨n, by omega⟩
  exact ⟨_, _, _, rfl, rfl, rfl, t.1, t.2.1, t.2.2.1, t.2.2.2.1, t.2.2.2.2.1, _, t.2.2.2.2.2⟩

theorem prod_le {a b A B : Int} (ha : 0 ≤ a) (hA : a ≤ A) (hb : 0 ≤ b) (hB : b ≤ B) : 0 ≤ a * b ∧ a * b ≤ A * B :=
  ⟨Int.mul_nonneg ha hb, Int.mul_le_mul hA hB hb (by omega)⟩

/-- what the three parts are, in the product P = l * s -/
theorem col_lin (c h s l : Int) : colP c h s l = l * 32768 - (l * s) * fall c h := by
  unfold colP; rw [Int.mul_sub, Int.mul_assoc]

theorem mul8 {P f : Int} (p : 0 ≤ P) (hf : 0 ≤ f ∧ f ≤ 8) : 0 ≤ P * f ∧ P * f ≤ P * 8 := ⟨Int.mul_nonneg p hf.1, Int.mul_le_mul_of_nonneg_left hf.2 p⟩
theorem nb50 {l P f : Int} (l0 : 0 ≤ l) (l1 : l ≤ 4096) (p0 : 0 ≤ P) (p1 : P ≤ 4096 * 4096) (hf : 0 ≤ f ∧ f ≤ 8) : (l * 32768 - P * f).natAbs < 2 ^ 50 := by
  have ⟨a, b⟩ := mul8 p0 hf
  generalize P * f = x at *
  omega
theorem sub_up {L a : Int} (ha : 0 ≤ a) : L - a ≤ L := Int.sub_le_self _ ha
theorem mx3 {L a b c : Int} (ha : 0 ≤ a) (hb : 0 ≤ b) (hc : 0 ≤ c) (z : a = 0 ∨ b = 0 ∨ c = 0) : max (max (L - a) (L - b)) (L - c) = L := by
  refine Int.le_antisymm (Int.max_le.mpr ⟨Int.max_le.mpr ⟨sub_up ha, sub_up hb⟩, sub_up hc⟩) ?_
  rcases z with rfl | rfl | rfl
  · exact Int.le_trans (Int.le_of_eq (Int.sub_zero L).symm) (Int.le_trans (Int.le_max_left ..) (Int.le_max_left ..))
  · exact Int.le_trans (Int.le_of_eq (Int.sub_zero L).symm) (Int.le_trans (Int.le_max_right ..) (Int.le_max_left ..))
  · exact Int.le_trans (Int.le_of_eq (Int.sub_zero L).symm) (Int.le_max_right ..)
theorem mn3 {L M a b c : Int} (ha : a ≤ M) (hb : b ≤ M) (hc : c ≤ M) (z : a = M ∨ b = M ∨ c = M) : min (min (L - a) (L - b)) (L - c) = L - M := by
  refine Int.le_antisymm ?_ (Int.le_min.mpr ⟨Int.le_min.mpr ⟨Int.sub_le_sub_left ha L, Int.sub_le_sub_left hb L⟩, Int.sub_le_sub_left hc L⟩)
  rcases z with rfl | rfl | rfl
  · exact Int.le_trans (Int.min_le_left ..) (Int.min_le_left ..)
  · exact Int.le_trans (Int.min_le_left ..) (Int.min_le_right ..)
  · exact Int.min_le_right ..
/-- what holds of the three parts: P is light times share -/
theorem parts {h s l : Int} (v : Valid h s l) : ∃ f0 f1 f2 Y P : Int, colP 0 h s l = l * 32768 - P * f0 ∧ colP 16 h s l = l * 32768 - P * f1 ∧ colP 32 h s l = l * 32768 - P * f2 ∧
    (0 ≤ f0 ∧ f0 ≤ 8) ∧ (0 ≤ f1 ∧ f1 ≤ 8) ∧ (0 ≤ f2 ∧ f2 ≤ 8) ∧ (if f0 = 0 then f2 - f1 else if f1 = 0 then 16 + f0 - f2 else 32 + f1 - f0) = 3 * Y ∧ Y % 16 = h ∧ l * s = P ∧ 0 ≤ P ∧ P ≤ 4096 * 4096 ∧
    max (max (l * 32768 - P * f0) (l * 32768 - P * f1)) (l * 32768 - P * f2) = l * 32768 ∧ min (min (l * 32768 - P * f0) (l * 32768 - P * f1)) (l * 32768 - P * f2) = l * 32768 - P * 8 := by
  obtain ⟨f0, f1, f2, e0, e1, e2, b0, b1, b2, hz, h8, Y, hY, hm⟩ := falls v.h0 v.h1
  have hP := prod_le v.l0 v.l1 v.s0 v.s1
  refine ⟨f0, f1, f2, Y, l * s, by rw [col_lin, e0], by rw [col_lin, e1], by rw [col_lin, e2], b0, b1, b2, hY, hm, rfl, hP.1, hP.2, mx3 (mul8 hP.1 b0).1 (mul8 hP.1 b1).1 (mul8 hP.1 b2).1 ?_, mn3 (mul8 hP.1 b0).2 (mul8 hP.1 b1).2 (mul8 hP.1 b2).2 ?_⟩
  · rcases hz with e | e | e
    · exact .inl (by rw [e, Int.mul_zero])
    · exact .inr (.inl (by rw [e, Int.mul_zero]))
    · exact .inr (.inr (by rw [e, Int.mul_zero]))
  · rcases h8 with e | e | e
    · exact .inl (by rw [e])
    · exact .inr (.inl (by rw [e]))
    · exact .inr (.inr (by rw [e]))
theorem hh8 {L P f : Int} : (L - (L - P * f)) * 8 = f * (L - (L - P * 8)) := by
  rw [Int.sub_sub_self, Int.sub_sub_self, Int.mul_comm f (P * 8), Int.mul_assoc, Int.mul_assoc, Int.mul_comm f 8]
theorem ne8 {L P : Int} (h : P ≠ 0) : L - P * 8 ≠ L := by omega
theorem lt8 {L P : Int} (h : P ≠ 0) (p : 0 ≤ P) : L - P * 8 < L := by lia
theorem ls_pos {l s P : Int} (l0 : 0 ≤ l) (e : l * s = P) (h : P ≠ 0) : 0 < l := by
  rcases Int.lt_or_eq_of_le l0 with q | q
  · exact q
  · exact absurd (by rw [← e, ← q, Int.zero_mul]) h
theorem l50 {l : Int} (l0 : 0 ≤ l) (l1 : l ≤ 4096) : (l * 32768).natAbs < 2 ^ 50 := by omega
theorem div8 {l s P : Int} (e : l * s = P) (s0 : 0 ≤ s) (s1 : s ≤ 4096) (l0 : 0 < l) (l1 : l ≤ 4096) (p0 : 0 ≤ P) (p1 : P ≤ 4096 * 4096) : div (fl (P * 8) 27) (fl (l * 32768) 27) = fl s 12 := by
  have hls8 : (P * 8) * 2 ^ (12 + 27) = s * (l * 32768) * 2 ^ 27 := by
    have : s * (l * 32768) = P * 32768 := by rw [← e, ← Int.mul_assoc, Int.mul_comm s l]
    rw [this]; lia
  exact fl_div (c := s) (i := 12) (by omega) (by omega) (by omega) (by omega) (by decide) (by decide) (by decide) hls8
theorem hsv_st {h s l : Int} (v : Valid h s l) : hsvF (colF 0 h s l) (colF 16 h s l) (colF 32 h s l) = (fl h 4, fl s 12, fl l 12) ∧
    (eqF (min3F (colF 0 h s l) (colF 16 h s l) (colF 32 h s l)) (max3F (colF 0 h s l) (colF 16 h s l) (colF 32 h s l)) = false →
      isZero (sub (max3F (colF 0 h s l) (colF 16 h s l) (colF 32 h s l)) (min3F (colF 0 h s l) (colF 16 h s l) (colF 32 h s l))) = false ∧ isZero (max3F (colF 0 h s l) (colF 16 h s l) (colF 32 h s l)) = false) := by
  obtain ⟨f0, f1, f2, Y, P, e0, e1, e2, b0, b1, b2, hY, hm, eP, p0, p1, hmx, hmn⟩ := parts v
  have n0 := nb50 v.l0 v.l1 p0 p1 b0
  have n1 := nb50 v.l0 v.l1 p0 p1 b1
  have n2 := nb50 v.l0 v.l1 p0 p1 b2
  have nM := nb50 v.l0 v.l1 p0 p1 (f := 8) ⟨by decide, by decide⟩
  have nL := l50 v.l0 v.l1
  unfold colF
  rw [e0, e1, e2]
  have hlup : fl (l * 32768) 27 = fl l 12 := fl_up (a := l) (k := 12) (j := 15) (u53 nL) (by decide)
  have k3 : 27 ≤ 1000 := by decide
  have hM := max3_fl (u53 n0) (u53 n1) (u53 n2) k3
  have hN := min3_fl (u53 n0) (u53 n1) (u53 n2) k3
  rw [hmx] at hM
  rw [hmn] at hN
  have heq := eq_fl (u53 nM) (u53 nL) k3
  rw [hM, hN]
  have hsub : sub (fl (l * 32768) 27) (fl (l * 32768 - P * 8) 27) = fl (P * 8) 27 := by
    rw [sub50 (by decide) nL nM, Int.sub_sub_self]
  refine ⟨?_, fun hf => ?_⟩
  · unfold hsvF
    simp only [hM, hN]
    by_cases hp : P = 0
    · rw [if_pos (by rw [heq, hp]; exact decide_eq_true (by rw [Int.zero_mul, Int.sub_zero])), hlup]
      have hs0 : s = 0 := by
        rcases Int.mul_eq_zero.mp (eP.trans hp) with q | q
        · exact v.ls q
        · exact q
      rw [v.sh hs0, hs0, lit0k 4]
      rw [Prod.mk.injEq, Prod.mk.injEq]
      exact ⟨rfl, by rw [← lit0k 4, ← lit0k 12], rfl⟩
    · rw [if_neg (by rw [heq, decide_eq_false (ne8 hp)]; exact Bool.false_ne_true)]
      rw [hsub, hue_gen (f0 := f0) (f1 := f1) (f2 := f2) (Y := Y) (by decide) n0 n1 n2 nL nM (lt8 hp p0) hh8 hh8 hh8 b0 b1 b2 ?_, hm]
      · rw [div8 eP v.s0 v.s1 (ls_pos v.l0 eP hp) v.l1 p0 p1, hlup]
      · rw [← hY]
        have pe : ∀ f, (l * 32768 - P * f = l * 32768) ↔ f = 0 := fun f => ⟨fun e => by
          have : P * f = 0 := by lia
          rcases Int.mul_eq_zero.mp this with q | q
          · exact absurd q hp
          · exact q, fun e => by rw [e, Int.mul_zero, Int.sub_zero]⟩
        simp only [pe]
  · rw [heq] at hf
    have hne : P ≠ 0 := fun e => of_decide_eq_false hf (by rw [e, Int.zero_mul, Int.sub_zero])
    have hl := ls_pos v.l0 eP hne
    constructor
    · rw [hsub, fl_isZero (nn (by omega) (by omega)) (by decide)]
      exact decide_eq_false (by omega)
    · rw [fl_isZero (u53 nL) (by decide)]
      exact decide_eq_false (by omega)


theorem lit2k : (4611686018427387904 : UInt64) = fl 268435456 27 := by decide +kernel

theorem hls_st {h s l : Int} (v : Valid h s l) : (hlsF (colF 0 h s l) (colF 16 h s l) (colF 32 h s l)).1 = fl h 4 ∧
    (eqF (min3F (colF 0 h s l) (colF 16 h s l) (colF 32 h s l)) (max3F (colF 0 h s l) (colF 16 h s l) (colF 32 h s l)) = false →
      isZero (sub (max3F (colF 0 h s l) (colF 16 h s l) (colF 32 h s l)) (min3F (colF 0 h s l) (colF 16 h s l) (colF 32 h s l))) = false ∧ isZero (add (max3F (colF 0 h s l) (colF 16 h s l) (colF 32 h s l)) (min3F (colF 0 h s l) (colF 16 h s l) (colF 32 h s l))) = false ∧
      isZero (sub (sub 4611686018427387904 (max3F (colF 0 h s l) (colF 16 h s l) (colF 32 h s l))) (min3F (colF 0 h s l) (colF 16 h s l) (colF 32 h s l))) = false) := by
  have hv := hsv_st v
  refine ⟨?_, fun hf => ⟨(hv.2 hf).1, ?_⟩⟩
  · have h1 := congrArg Prod.fst hv.1
    unfold hsvF at h1
    unfold hlsF
    simp only at h1 ⊢
    split
    · rename_i q; rw [if_pos q] at h1; exact h1
    · rename_i q; rw [if_neg q] at h1; exact h1
  · obtain ⟨f0, f1, f2, Y, P, e0, e1, e2, b0, b1, b2, hY, hm, eP, p0, p1, hmx, hmn⟩ := parts v
    have n0 := nb50 v.l0 v.l1 p0 p1 b0
    have n1 := nb50 v.l0 v.l1 p0 p1 b1
    have n2 := nb50 v.l0 v.l1 p0 p1 b2
    have nM := nb50 v.l0 v.l1 p0 p1 (f := 8) ⟨by decide, by decide⟩
    have nL := l50 v.l0 v.l1
    have hPl : P ≤ l * 4096 := eP ▸ Int.mul_le_mul_of_nonneg_left v.s1 v.l0
    have l0 := v.l0
    have l1 := v.l1
    unfold colF at hf ⊢
    rw [e0, e1, e2] at hf ⊢
    have k3 : 27 ≤ 1000 := by decide
    rw [max3_fl (u53 n0) (u53 n1) (u53 n2) k3, min3_fl (u53 n0) (u53 n1) (u53 n2) k3, hmx, hmn] at hf ⊢
    rw [eq_fl (u53 nM) (u53 nL) k3] at hf
    have hne : P ≠ 0 := fun e => of_decide_eq_false hf (by rw [e, Int.zero_mul, Int.sub_zero])
    clear hf e0 e1 e2 hmx hmn n0 n1 n2 hY hm b0 b1 b2 eP
    constructor
    · rw [fl_add (u53 nL) (u53 nM) (nn (by omega) (by omega)) k3, fl_isZero (nn (by omega) (by omega)) k3]
      exact decide_eq_false (by omega)
    · rw [lit2k, fl_sub (by decide) (u53 nL) (nn (by omega) (by omega)) k3, fl_sub (nn (by omega) (by omega)) (u53 nM) (nn (by omega) (by omega)) k3, fl_isZero (nn (by omega) (by omega)) k3]
      exact decide_eq_false (by omega)

theorem sext_table : ∀ n : Fin 47, (((6 * n.val / 16) % 6 = 0 ∧ fall 0 n.val = 0 ∧ 2 * fall 16 n.val = 16 - (6 * n.val % 16 : Nat) ∧ fall 32 n.val = 8) ∨
    ((6 * n.val / 16) % 6 = 1 ∧ 2 * fall 0 n.val = (6 * n.val % 16 : Nat) ∧ fall 16 n.val = 0 ∧ fall 32 n.val = 8) ∨
    ((6 * n.val / 16) % 6 = 2 ∧ fall 0 n.val = 8 ∧ fall 16 n.val = 0 ∧ 2 * fall 32 n.val = 16 - (6 * n.val % 16 : Nat)) ∨
    ((6 * n.val / 16) % 6 = 3 ∧ fall 0 n.val = 8 ∧ 2 * fall 16 n.val = (6 * n.val % 16 : Nat) ∧ fall 32 n.val = 0) ∨
    ((6 * n.val / 16) % 6 = 4 ∧ 2 * fall 0 n.val = 16 - (6 * n.val % 16 : Nat) ∧ fall 16 n.val = 8 ∧ fall 32 n.val = 0) ∨
    ((6 * n.val / 16) % 6 = 5 ∧ fall 0 n.val = 0 ∧ fall 16 n.val = 8 ∧ 2 * fall 32 n.val = (6 * n.val % 16 : Nat))) := by decide +kernel

theorem b4 {h : Int} (h0 : 0 ≤ h) (h1 : h < 47) : h.natAbs < 2 ^ 53 ∧ (h * 6).natAbs < 2 ^ 53 := by omega
theorem six_fl {n : Nat} (hn : n < 47) : sixF (fl (n : Int) 4) = fl ((6 * n : Nat) : Int) 4 := by
  have hb := b4 (h := n) (by omega) (by omega)
  show mul (fl (n : Int) 4) 4618441417868443648 = _
  rw [lit6, fl_mul (Int.natCast_nonneg n) (by decide) hb.1 (by decide) hb.2 (by decide), Int.mul_comm]
  rfl
theorem n6 {n : Nat} (hn : n < 47) : ((6 * n : Nat) : Int).natAbs < 2 ^ 53 := by omega
theorem part_fl {n : Nat} (hn : n < 47) : partF (fl (n : Int) 4) = fl ((6 * n % 16 : Nat) : Int) 4 := by
  have htr : Flt.toInt truncOf (sixF (fl (n : Int) 4)) = ((6 * n / 16 : Nat) : Int) := by rw [six_fl hn, fl_trunc (by omega) (by decide)]
  show sub (sixF (fl (n : Int) 4)) (ofInt (Flt.toInt truncOf (sixF (fl (n : Int) 4)))) = _
  rw [htr, six_fl hn, fl_ofInt (nn (Int.natCast_nonneg _) (by omega)), show fl ((6 * n / 16 : Nat) : Int) 0 = fl (((6 * n / 16 : Nat) : Int) * 2 ^ 4) 4 from (fl_up (k := 0) (j := 4) (nn (Int.mul_nonneg (Int.natCast_nonneg _) (by decide)) (by omega)) (by decide)).symm, fl_sub (n6 hn) (nn (Int.mul_nonneg (Int.natCast_nonneg _) (by decide)) (by omega)) (nn (by omega) (by omega)) (by decide)]
  congr 1; omega
theorem le12 {x : Int} (h0 : 0 ≤ x) (h1 : x ≤ 4096) : x.natAbs < 2 ^ 53 := by omega
theorem le30 {x : Int} (h0 : 0 ≤ x) (h1 : x ≤ 4096 * 65536) : x.natAbs < 2 ^ 53 := by omega
theorem lit1k12 : (4607182418800017408 : UInt64) = fl 4096 12 := by decide +kernel
theorem lit1k16 : (4607182418800017408 : UInt64) = fl 65536 16 := by decide +kernel
theorem lit1k4 : (4607182418800017408 : UInt64) = fl 16 4 := by decide +kernel
section
variable {s l : Int} (s0 : 0 ≤ s) (s1 : s ≤ 4096) (l0 : 0 ≤ l) (l1 : l ≤ 4096)
include s0 s1 l0 l1
theorem p_fl {c h : Int} (ef : fall c h = 8) : pF (fl s 12) (fl l 12) = colF c h s l := by
  show mul (fl l 12) (sub 4607182418800017408 (fl s 12)) = _
  have q0 : 0 ≤ 4096 - s := Int.sub_nonneg_of_le s1
  have q1 : 4096 - s ≤ 4096 := Int.sub_le_self _ s0
  have hb := prod_le l0 l1 q0 q1
  have hn : (l * (4096 - s)).natAbs < 2 ^ 53 := le30 hb.1 (Int.le_trans hb.2 (by decide))
  rw [lit1k12, fl_sub (by decide) (le12 s0 s1) (le12 q0 q1) (by decide), fl_mul l0 q0 (le12 l0 l1) (le12 q0 q1) hn (by decide)]
  unfold colF colP
  rw [ef]
  have : l * (32768 - s * 8) = l * (4096 - s) * 2 ^ 3 := by
    rw [Int.mul_assoc]; congr 1
    rw [Int.sub_mul]; rfl
  have hn3 : (l * (4096 - s) * 2 ^ 3).natAbs < 2 ^ 53 := by
    have := hb.1
    have := hb.2
    generalize l * (4096 - s) = y at *
    omega
  rw [this]
  exact (fl_up (k := 24) (j := 3) hn3 (by decide)).symm
theorem x_fl {c h g : Int} (g0 : 0 ≤ g) (g1 : g ≤ 16) (ef : 2 * fall c h = g) : mul (fl l 12) (sub 4607182418800017408 (mul (fl s 12) (fl g 4))) = colF c h s l := by
  have hb := prod_le s0 s1 g0 g1
  have q0 : 0 ≤ 65536 - s * g := Int.sub_nonneg_of_le hb.2
  have q1 : 65536 - s * g ≤ 65536 := Int.sub_le_self _ hb.1
  have hb2 := prod_le l0 l1 q0 q1
  have hn : (l * (65536 - s * g)).natAbs < 2 ^ 53 := le30 hb2.1 hb2.2
  have hg : g.natAbs < 2 ^ 53 := le12 g0 (Int.le_trans g1 (by decide))
  have hsg : (s * g).natAbs < 2 ^ 53 := le30 hb.1 (Int.le_trans hb.2 (by decide))
  have hq : (65536 - s * g).natAbs < 2 ^ 53 := le30 q0 (Int.le_trans q1 (by decide))
  rw [fl_mul s0 g0 (le12 s0 s1) hg hsg (by decide), lit1k16, fl_sub (by decide) hsg hq (by decide), fl_mul l0 q0 (le12 l0 l1) hq hn (by decide)]
  unfold colF colP
  have : l * (65536 - s * g) = l * (32768 - s * fall c h) * 2 ^ 1 := by
    rw [Int.mul_assoc, ← ef]; congr 1
    rw [Int.sub_mul, Int.mul_assoc, Int.mul_comm 2 (fall c h)]; rfl
  rw [this] at hn ⊢
  exact fl_up (k := 27) (j := 1) hn (by decide)
end
theorem rgb_st {h s l : Int} (h0 : 0 ≤ h) (h1 : h < 47) (s0 : 0 ≤ s) (s1 : s ≤ 4096) (l0 : 0 ≤ l) (l1 : l ≤ 4096) : rgbF (fl h 4) (fl s 12) (fl l 12) = (colF 0 h s l, colF 16 h s l, colF 32 h s l) ∧
    isNaN (sixF (fl h 4)) = false ∧ isInf (sixF (fl h 4)) = false ∧ (Flt.toInt truncOf (sixF (fl h 4))).natAbs < 2 ^ 1024 - 2 ^ 970 := by
  obtain ⟨n, rfl⟩ : ∃ n : Nat, h = n := ⟨h.toNat, by omega⟩
  have hn : n < 47 := by omega
  have h6 := six_fl hn
  have htr : Flt.toInt truncOf (sixF (fl (n : Int) 4)) = ((6 * n / 16 : Nat) : Int) := by rw [h6, fl_trunc (by omega) (by decide)]
  refine ⟨?_, ?_, ?_, ?_⟩
  · have colz : ∀ c f, fall c n = f → f = 0 → colF c n s l = fl l 12 := fun c f e e2 => by
      unfold colF colP
      rw [e, e2, Int.mul_zero]
      exact fl_up (a := l) (k := 12) (j := 15) (u53 (l50 l0 l1)) (by decide)
    by_cases hs : s = 0
    · have e : eqF (fl s 12) 0 = true := by rw [lit0k 12, eq_fl (le12 s0 s1) (by decide) (by decide)]; exact decide_eq_true hs
      rw [rgb_g e]
      have : ∀ c, colF c n s l = fl l 12 := fun c => by
        unfold colF colP
        rw [hs, Int.zero_mul]
        exact fl_up (a := l) (k := 12) (j := 15) (u53 (l50 l0 l1)) (by decide)
      rw [this, this, this]
    · have e : eqF (fl s 12) 0 = false := by rw [lit0k 12, eq_fl (le12 s0 s1) (by decide) (by decide)]; exact decide_eq_false hs
      have hsx : sextF (fl (n : Int) 4) = (((6 * n / 16) % 6 : Nat) : Int) := by
        show Int.fmod (Flt.toInt truncOf (sixF (fl (n : Int) 4))) 6 = _
        rw [htr, Int.fmod_eq_emod_of_nonneg _ (by decide)]; rfl
      have hr : 6 * n % 16 < 16 := Nat.mod_lt _ (by decide)
      have hg := part_fl hn
      have hp : ∀ c, fall c n = 8 → pF (fl s 12) (fl l 12) = colF c n s l := fun c ef => p_fl s0 s1 l0 l1 ef
      have hq : ∀ c, 2 * fall c n = (6 * n % 16 : Nat) → qF (fl (n : Int) 4) (fl s 12) (fl l 12) = colF c n s l := fun c ef => by
        show mul (fl l 12) (sub 4607182418800017408 (mul (fl s 12) (partF (fl (n : Int) 4)))) = _
        rw [hg]
        exact x_fl s0 s1 l0 l1 (Int.natCast_nonneg _) (Int.ofNat_le.mpr (Nat.le_of_lt hr)) ef
      have ht : ∀ c, 2 * fall c n = 16 - (6 * n % 16 : Nat) → tF (fl (n : Int) 4) (fl s 12) (fl l 12) = colF c n s l := fun c ef => by
        show mul (fl l 12) (sub 4607182418800017408 (mul (fl s 12) (sub 4607182418800017408 (partF (fl (n : Int) 4))))) = _
        have r0 : 0 ≤ 16 - ((6 * n % 16 : Nat) : Int) := Int.sub_nonneg_of_le (Int.ofNat_le.mpr (Nat.le_of_lt hr))
        have r1 : 16 - ((6 * n % 16 : Nat) : Int) ≤ 16 := Int.sub_le_self _ (Int.natCast_nonneg _)
        rw [hg, lit1k4, fl_sub (by decide) (le12 (Int.natCast_nonneg _) (Int.le_trans (Int.ofNat_le.mpr (Nat.le_of_lt hr)) (by decide))) (le12 r0 (Int.le_trans r1 (by decide))) (by decide), ← lit1k4]
        exact x_fl s0 s1 l0 l1 r0 r1 ef
      have tb := sext_table ⟨n, hn⟩
      simp only at tb
      rcases tb with ⟨k, a, b, c⟩ | ⟨k, a, b, c⟩ | ⟨k, a, b, c⟩ | ⟨k, a, b, c⟩ | ⟨k, a, b, c⟩ | ⟨k, a, b, c⟩
      · rw [rgb_0 e (by rw [hsx, k]; rfl), colz 0 _ rfl a, ht 16 b, hp 32 c]
      · rw [rgb_1 e (by rw [hsx, k]; rfl), colz 16 _ rfl b, hq 0 a, hp 32 c]
      · rw [rgb_2 e (by rw [hsx, k]; rfl), colz 16 _ rfl b, ht 32 c, hp 0 a]
      · rw [rgb_3 e (by rw [hsx, k]; rfl), colz 32 _ rfl c, hq 16 b, hp 0 a]
      · rw [rgb_4 e (by rw [hsx, k]; rfl), colz 32 _ rfl c, ht 0 a, hp 16 b]
      · rw [rgb_5 e (by rw [hsx, k]; rfl), colz 0 _ rfl a, hq 32 c, hp 16 b]
  · rw [h6]; exact fl_isNaN (n6 hn) (by decide)
  · rw [h6]; exact fl_isInf (n6 hn) (by decide)
  · rw [htr]
    have : (100 : Nat) < 2 ^ 1024 - 2 ^ 970 := by decide +kernel
    exact Nat.lt_trans (show (((6 * n / 16 : Nat) : Int)).natAbs < 100 by rw [Int.natAbs_natCast]; omega) this
end
section
theorem clear_Done1 : True := by k_with_none; trivial
open PySem PySem.W PyProof.Rows
set_option maxRecDepth 100000
set_option maxHeartbeats 8000000
section
variable {w : World} {p : Program} {loose : List Str} {mean : ExcName → Option Value} {mg mb : Str → Option Value} {dp un : Nat} {gd : Option (List Code)} {cn : Str} {cs : Scope} {a : Addr} {ccd : Value} {cl : List (Str × Addr)} {outer : List Env} {A₀ : Around} {base h₀ : Heap} {L : Addr} {m : Str → Option Value} {news : List (Addr × Obj)} {s : Shared} {Q E : Value → Shared → Prop}
theorem c_hsv_st {h sh l : Int} {x y z : UInt64} {tx ty tz : Tok}
    (B : Below A₀ base outer h₀) (F : Fr h₀ L s.heap m) (X : (hd.heap_1 w.params).In h₀) (N : News h₀ L s.heap news) (T : Top p loose mean mg mb h₀) (hk : cs.kind = .function) (px : @LT.lt Nat _ 0 tx) (py : @LT.lt Nat _ 0 ty) (pz : @LT.lt Nat _ 0 tz) (hdp : dp + 1 < recursionLimit) (hun : un + 8 < cLine)
    (v : Valid h sh l) (ex : x = colF 0 h sh l) (ey : y = colF 16 h sh l) (ez : z = colF 32 h sh l)
    (hret : ∀ (D : Addr) (t1 t2 t3 : Tok) (h' : Heap) (tk' : Nat), Fr h₀ L h' m → News h₀ L h' ((D, tup3 (.float (fl h 4) t1) (.float (fl sh 12) t2) (.float (fl l 12) t3)) :: news) → (∀ q ∈ news, q.1 < D) → @LT.lt Nat _ 0 t1 → @LT.lt Nat _ 0 t2 → @LT.lt Nat _ 0 t3 → Q (.ref D) { s with heap := h', toks := tk' }) :
    wpAny (model PySem.Challenge.rw_mq0203_01.prog w) (ktrTop dp un gd cn cs L a ccd cl outer) (call (.ref 44) [.float x tx, .float y ty, .float z tz]) Q E s := by
  subst ex ey ez
  have hv := hsv_st v
  refine c_hsv B F X N T hk px py pz hdp hun (fun q => (hv.2 q).1) (fun q => (hv.2 q).2) fun r g b D t1 t2 t3 h' tk' e F' N' l' p1 p2 p3 => ?_
  rw [hv.1] at e
  cases e
  exact hret D t1 t2 t3 h' tk' F' N' l' p1 p2 p3
theorem c_hls_st {h sh l : Int} {x y z : UInt64} {tx ty tz : Tok}
    (B : Below A₀ base outer h₀) (F : Fr h₀ L s.heap m) (X : (hd.heap_1 w.params).In h₀) (N : News h₀ L s.heap news) (T : Top p loose mean mg mb h₀) (hk : cs.kind = .function) (px : @LT.lt Nat _ 0 tx) (py : @LT.lt Nat _ 0 ty) (pz : @LT.lt Nat _ 0 tz) (hdp : dp + 1 < recursionLimit) (hun : un + 8 < cLine)
    (v : Valid h sh l) (ex : x = colF 0 h sh l) (ey : y = colF 16 h sh l) (ez : z = colF 32 h sh l)
    (hret : ∀ (g b : UInt64) (D : Addr) (t1 t2 t3 : Tok) (h' : Heap) (tk' : Nat), Fr h₀ L h' m → News h₀ L h' ((D, tup3 (.float (fl h 4) t1) (.float g t2) (.float b t3)) :: news) → (∀ q ∈ news, q.1 < D) → @LT.lt Nat _ 0 t1 → @LT.lt Nat _ 0 t2 → @LT.lt Nat _ 0 t3 → Q (.ref D) { s with heap := h', toks := tk' }) :
    wpAny (model PySem.Challenge.rw_mq0203_01.prog w) (ktrTop dp un gd cn cs L a ccd cl outer) (call (.ref 37) [.float x tx, .float y ty, .float z tz]) Q E s := by
  subst ex ey ez
  have hv := hls_st v
  refine c_hls B F X N T hk px py pz hdp hun (fun q => (hv.2 q).1) (fun q _ => (hv.2 q).2.1) (fun q _ => (hv.2 q).2.2) fun r g b D t1 t2 t3 h' tk' e F' N' l' p1 p2 p3 => ?_
  have e1 := hv.1
  rw [e] at e1
  cases e1
  exact hret g b D t1 t2 t3 h' tk' F' N' l' p1 p2 p3
theorem c_rgb_st {h sh l : Int} {x y z : UInt64} {tx ty tz : Tok}
    (B : Below A₀ base outer h₀) (F : Fr h₀ L s.heap m) (X : (hd.heap_1 w.params).In h₀) (N : News h₀ L s.heap news) (T : Top p loose mean mg mb h₀) (hk : cs.kind = .function) (px : @LT.lt Nat _ 0 tx) (py : @LT.lt Nat _ 0 ty) (pz : @LT.lt Nat _ 0 tz) (hdp : dp + 1 < recursionLimit) (hun : un + 8 < cLine)
    (h0 : 0 ≤ h) (h1 : h < 47) (s0 : 0 ≤ sh) (s1 : sh ≤ 4096) (l0 : 0 ≤ l) (l1 : l ≤ 4096) (ex : x = fl h 4) (ey : y = fl sh 12) (ez : z = fl l 12)
    (hret : ∀ (D : Addr) (t1 t2 t3 : Tok) (h' : Heap) (tk' : Nat), Fr h₀ L h' m → News h₀ L h' ((D, tup3 (.float (colF 0 h sh l) t1) (.float (colF 16 h sh l) t2) (.float (colF 32 h sh l) t3)) :: news) → (∀ q ∈ news, q.1 < D) → @LT.lt Nat _ 0 t1 → @LT.lt Nat _ 0 t2 → @LT.lt Nat _ 0 t3 → Q (.ref D) { s with heap := h', toks := tk' }) :
    wpAny (model PySem.Challenge.rw_mq0203_01.prog w) (ktrTop dp un gd cn cs L a ccd cl outer) (call (.ref 51) [.float x tx, .float y ty, .float z tz]) Q E s := by
  subst ex ey ez
  have hv := rgb_st h0 h1 s0 s1 l0 l1
  refine c_hsv2rgb B F X N T hk px py pz hdp hun (fun _ => hv.2.1) (fun _ => hv.2.2.1) (fun _ => hv.2.2.2) fun r g b D t1 t2 t3 h' tk' e F' N' l' p1 p2 p3 => ?_
  rw [hv.1] at e
  cases e
  exact hret D t1 t2 t3 h' tk' F' N' l' p1 p2 p3
end
end
section
theorem clear_Reck1 : True := by k_with_none; trivial
open PySem
open Float64
/-- one deed on the reckoner's three whole numbers (as the text reckons it) -/
noncomputable def rkH (kd am h : Int) : Int := if kd = 0 then h + am else if kd = 1 then -h else h
noncomputable def rkS (kd am s : Int) : Int := if kd = 0 then s else if kd = 1 then s else if kd = 2 then Int.fdiv (s + 4096 * am) 2 else s
noncomputable def rkL (kd am l : Int) : Int := if kd = 0 then l else if kd = 1 then l else if kd = 2 then l else Int.fdiv (l + 4096 * am) 2
structure Tri where
  h : Int
  s : Int
  l : Int
noncomputable def rk2S (kd am s l : Int) : Int := if rkL kd am l ≠ 0 then rkS kd am s else 0
noncomputable def rk (kd am : Int) (t : Tri) : Tri := ⟨if rk2S kd am t.s t.l ≠ 0 then Int.fmod (rkH kd am t.h) 16 else 0, rk2S kd am t.s t.l, rkL kd am t.l⟩
structure OkDeed (kd am : Int) : Prop where
  k0 : 0 ≤ kd
  k3 : kd ≤ 3
  a0 : 0 ≤ am
  a1 : am < 32
  a2 : kd ≠ 0 → am < 2

theorem div_k {n : Int} {d : Int} {k : Nat} (hn : n.natAbs < 2 ^ 53) (hk : k ≤ 1000) (hd : d = 2 ^ k) : ofFrac (decide (n < 0) != decide (d < 0)) n.natAbs d.natAbs = fl n k := by
  have hp : (0 : Int) < 2 ^ k := Int.pow_pos (by decide)
  rw [decide_eq_false (by lia : ¬ d < 0), Bool.bne_false]
  refine fl_ofFrac hn hk ?_
  rw [hd, Int.natAbs_pow]; rfl
theorem div_16 {n : Int} (hn : n.natAbs < 2 ^ 53) : ofFrac (decide (n < 0) != decide ((16 : Int) < 0)) n.natAbs (16 : Int).natAbs = fl n 4 := div_k hn (by decide) (by decide)
theorem half_eq {s am : Int} (s0 : 0 ≤ s) (s1 : s ≤ 4096) (a0 : 0 ≤ am) (a1 : am < 2) (ev : s % 2 = 0) : div (add (fl s 12) (ofInt am)) (ofInt 2) = fl (Int.fdiv (s + 4096 * am) 2) 12 := by
  obtain ⟨c, rfl⟩ := Int.dvd_of_emod_eq_zero ev
  have e1 : ofInt am = fl (4096 * am) 12 := by rw [fl_ofInt (nn a0 (by omega)), Int.mul_comm 4096]; exact (fl_up (k := 0) (j := 12) (nn (by omega) (by omega)) (by decide)).symm
  have e2 : Int.fdiv (2 * c + 4096 * am) 2 = c + 2048 * am := by
    rw [Int.fdiv_eq_ediv_of_nonneg _ (by decide), show (4096 : Int) = 2 * 2048 from rfl, Int.mul_assoc, ← Int.mul_add, Int.mul_ediv_cancel_left _ (by decide)]
  rw [e1, fl_add (nn s0 (by omega)) (nn (by omega) (by omega)) (nn (by omega) (by omega)) (by decide), fl_ofInt (by decide), e2]
  refine fl_div (by decide) (nn (by omega) (by omega)) (by decide) (nn (by omega) (by omega)) (by decide) (by decide) (by decide) ?_
  rw [show (4096 : Int) = 2 * 2048 from rfl, Int.mul_assoc 2 2048, ← Int.mul_add, Int.mul_comm 2 (c + _)]
theorem half_r {s am : Int} (s0 : 0 ≤ s) (s1 : s ≤ 4096) (a0 : 0 ≤ am) (a1 : am < 2) : 0 ≤ Int.fdiv (s + 4096 * am) 2 ∧ Int.fdiv (s + 4096 * am) 2 ≤ 4096 := by
  rw [Int.fdiv_eq_ediv_of_nonneg _ (by decide)]; omega
theorem hue_r {h am : Int} (h1 : h < 16) (a1 : am < 32) : h + am < 47 := by omega
theorem am_r {am : Int} (a0 : 0 ≤ am) (a1 : am < 32) : @LT.lt Nat _ am.natAbs (2 ^ 1023) := Nat.lt_of_lt_of_le (by omega : am.natAbs < 2 ^ 5) (by decide +kernel)
theorem add_hue {h am : Int} (h0 : 0 ≤ h) (h1 : h < 16) (a0 : 0 ≤ am) (a1 : am < 32) : add (fl h 4) (ofFrac (decide (am < 0) != decide ((16 : Int) < 0)) am.natAbs (16 : Int).natAbs) = fl (h + am) 4 := by
  rw [div_16 (by lia), fl_add (by lia) (by lia) (by lia) (by decide)]
theorem over_no {n : Nat} (h : n < 2 ^ 53) (q : 2 ^ 1024 - 2 ^ 970 ≤ n) : False := by
  have : (2 : Nat) ^ 53 ≤ 2 ^ 1024 - 2 ^ 970 := by decide +kernel
  lia
theorem fall_mod (c h : Int) : fall c (Int.fmod h 16) = fall c h := by
  unfold fall
  have : Int.fmod (3 * Int.fmod h 16 - c) 48 = Int.fmod (3 * h - c) 48 := by
    rw [Int.fmod_eq_emod_of_nonneg _ (by decide), Int.fmod_eq_emod_of_nonneg _ (by decide), Int.fmod_eq_emod_of_nonneg _ (by decide)]
    lia
  rw [this]
theorem fall_negT : ∀ n : Fin 16, fall 0 (-(n.val : Int)) = fall 0 n.val ∧ fall 16 (-(n.val : Int)) = fall 32 n.val ∧ fall 32 (-(n.val : Int)) = fall 16 n.val := by decide +kernel
theorem fall_neg {h : Int} (h0 : 0 ≤ h) (h1 : h < 16) : fall 0 (-h) = fall 0 h ∧ fall 16 (-h) = fall 32 h ∧ fall 32 (-h) = fall 16 h := by
  obtain ⟨n, rfl⟩ : ∃ n : Nat, h = n := ⟨h.toNat, by omega⟩
  exact fall_negT ⟨n, by omega⟩
/-- the colour of the state behind a deed: the hue may go on freely, and where nothing shows it may be nought -/
theorem colF_rk (kd am c : Int) (t : Tri) : colF c (rk kd am t).h (rk kd am t).s (rk kd am t).l = colF c (rkH kd am t.h) (rkS kd am t.s) (rkL kd am t.l) := by
  unfold colF colP rk rk2S
  simp only
  by_cases hl : rkL kd am t.l ≠ 0
  · rw [if_pos hl]
    by_cases hs : rkS kd am t.s ≠ 0
    · rw [if_pos hs, fall_mod]
    · rw [if_neg hs]
      have : rkS kd am t.s = 0 := by lia
      rw [this, Int.zero_mul, Int.zero_mul]
  · have : rkL kd am t.l = 0 := by lia
    rw [this, Int.zero_mul, Int.zero_mul]
section
variable {t : Tri} {kd am : Int}
theorem col_0 (hk : kd = 0) (c : Int) : colF c (t.h + am) t.s t.l = colF c (rk kd am t).h (rk kd am t).s (rk kd am t).l := by
  rw [colF_rk]; unfold rkH rkS rkL; rw [if_pos hk, if_pos hk, if_pos hk]
theorem col_1 (h0 : kd ≠ 0) (hk : kd = 1) {c d : Int} (hf : fall d t.h = fall c (-t.h)) : colF d t.h t.s t.l = colF c (rk kd am t).h (rk kd am t).s (rk kd am t).l := by
  rw [colF_rk]; unfold rkH rkS rkL; rw [if_neg h0, if_neg h0, if_neg h0, if_pos hk, if_pos hk, if_pos hk]
  unfold colF colP; rw [hf]
theorem col_2 (h0 : kd ≠ 0) (h1 : kd ≠ 1) (hk : kd = 2) (c : Int) : colF c t.h (Int.fdiv (t.s + 4096 * am) 2) t.l = colF c (rk kd am t).h (rk kd am t).s (rk kd am t).l := by
  rw [colF_rk]; unfold rkH rkS rkL; simp only [if_neg h0, if_neg h1, if_pos hk]
theorem col_3 (h0 : kd ≠ 0) (h1 : kd ≠ 1) (hk : kd ≠ 2) (c : Int) : colF c t.h t.s (Int.fdiv (t.l + 4096 * am) 2) = colF c (rk kd am t).h (rk kd am t).s (rk kd am t).l := by
  rw [colF_rk]; unfold rkH rkS rkL; simp only [if_neg h0, if_neg h1, if_neg hk]
theorem rk_valid (v : Valid t.h t.s t.l) (d : OkDeed kd am) : Valid (rk kd am t).h (rk kd am t).s (rk kd am t).l := by
  obtain ⟨v1, v2, v3, v4, v5, v6, v7, v8⟩ := v
  obtain ⟨d1, d2, d3, d4, d5⟩ := d
  have hS : 0 ≤ rkS kd am t.s ∧ rkS kd am t.s ≤ 4096 := by
    unfold rkS
    rw [Int.fdiv_eq_ediv_of_nonneg _ (by decide)]
    split
    · lia
    · have h9 := half_r v3 v4 d3 (d5 (by assumption))
      rw [Int.fdiv_eq_ediv_of_nonneg _ (by decide)] at h9
      (repeat' split) <;> first | exact h9 | exact ⟨v3, v4⟩
  have hL : 0 ≤ rkL kd am t.l ∧ rkL kd am t.l ≤ 4096 := by
    unfold rkL
    rw [Int.fdiv_eq_ediv_of_nonneg _ (by decide)]
    split
    · lia
    · have h9 := half_r v5 v6 d3 (d5 (by assumption))
      rw [Int.fdiv_eq_ediv_of_nonneg _ (by decide)] at h9
      (repeat' split) <;> first | exact h9 | exact ⟨v5, v6⟩
  have h2 : 0 ≤ rk2S kd am t.s t.l ∧ rk2S kd am t.s t.l ≤ 4096 := by unfold rk2S; split <;> omega
  have hm := Int.emod_nonneg (rkH kd am t.h) (show (16 : Int) ≠ 0 by decide)
  have hm2 := Int.emod_lt_of_pos (rkH kd am t.h) (show (0 : Int) < 16 by decide)
  have hH : (rk kd am t).h = if rk2S kd am t.s t.l ≠ 0 then rkH kd am t.h % 16 else 0 := by unfold rk; simp only; rw [Int.fmod_eq_emod_of_nonneg _ (by decide)]
  refine ⟨?_, ?_, h2.1, h2.2, hL.1, hL.2, fun e => ?_, fun e => ?_⟩
  · rw [hH]; split <;> lia
  · rw [hH]; split <;> lia
  · have e' : rk2S kd am t.s t.l = 0 := e
    rw [hH, if_neg (by lia)]
  · have e' : rkL kd am t.l = 0 := e
    show rk2S kd am t.s t.l = 0
    unfold rk2S; rw [if_neg (by lia)]
/-- what is left to halve -/
theorem half_mod {x am : Int} {j : Nat} (hj : j ≤ 8) (h : x % 2 ^ (j + 1) = 0) : (x + 4096 * am) / 2 % 2 ^ j = 0 := by
  obtain ⟨c, rfl⟩ := Int.dvd_of_emod_eq_zero h
  have e : (4096 : Int) = 2 ^ (j + 1) * 2 ^ (11 - j) := by rw [← Int.pow_add, show j + 1 + (11 - j) = 12 by rw [Nat.add_right_comm, Nat.add_sub_cancel' (Nat.le_trans hj (by decide))]]; rfl
  have e2 : (2 : Int) ^ (j + 1) * c + 4096 * am = 2 * (2 ^ j * (c + 2 ^ (11 - j) * am)) := by
    rw [e, Int.mul_assoc, ← Int.mul_add, Int.pow_succ, Int.mul_comm (2 ^ j) 2, Int.mul_assoc]
  rw [e2, Int.mul_ediv_cancel_left _ (by decide)]
  exact Int.mul_emod_right ..
theorem same_mod {x : Int} {j : Nat} (h : x % 2 ^ (j + 1) = 0) : x % 2 ^ j = 0 := by
  obtain ⟨c, rfl⟩ := Int.dvd_of_emod_eq_zero h
  rw [Int.pow_succ, Int.mul_assoc]
  exact Int.mul_emod_right ..
theorem rk_even {j : Nat} (d : OkDeed kd am) (hj : j ≤ 8) (hs : t.s % 2 ^ (j + 1) = 0) (hl : t.l % 2 ^ (j + 1) = 0) : (rk kd am t).s % 2 ^ j = 0 ∧ (rk kd am t).l % 2 ^ j = 0 := by
  have e1 : (rk kd am t).s = rk2S kd am t.s t.l := rfl
  have e2 : (rk kd am t).l = rkL kd am t.l := rfl
  have hS : rkS kd am t.s % 2 ^ j = 0 := by
    unfold rkS
    rw [Int.fdiv_eq_ediv_of_nonneg _ (by decide)]
    repeat' split
    all_goals first | exact half_mod hj hs | exact same_mod hs
  have hL : rkL kd am t.l % 2 ^ j = 0 := by
    unfold rkL
    rw [Int.fdiv_eq_ediv_of_nonneg _ (by decide)]
    repeat' split
    all_goals first | exact half_mod hj hl | exact same_mod hl
  rw [e1, e2]
  refine ⟨?_, hL⟩
  unfold rk2S; split
  · exact hS
  · exact Int.zero_emod _
end
end
section
theorem clear_Done1b : True := by k_with_none; trivial
open PySem PySem.W PyProof.Rows
set_option maxRecDepth 100000
set_option maxHeartbeats 8000000
theorem fill2 : True := by
  have h2 : (hd.heap_1 = hd.heap_1 ∧ PySem.Challenge.rw_mq0203_01 = PySem.Challenge.rw_mq0203_01) → True := fun _ => trivial
  apply h2
  k_fill
  exact ⟨rfl, rfl⟩
noncomputable abbrev tup2 (a b : Value) : Obj := { cls := .type "tuple", data := .seq #[a, b] }
section
theorem line_Done1b_1 : True := by
  k_with "call ref!" => (k_here; (show wpAny _ _ (call (Value.ref 44) _) _ _ _); k_dflt (refine' c_hsv_st ?B ?F ?X ?N ?T ?hk ?px ?py ?pz ?hd ?hu ?v ?ex ?ey ?ez ?_; (case B => k_asm); (case F => k_asm); (case X => k_asm); (case N => k_asm); (case T => k_asm); (case hk => rfl); (case px => (first | with_reducible assumption | exact Nat.succ_pos _)); (case py => (first | with_reducible assumption | exact Nat.succ_pos _)); (case pz => (first | with_reducible assumption | exact Nat.succ_pos _)); (case ex => rfl); (case ey => rfl); (case ez => rfl); (case v => assumption); (case hd => ktr_room); (case hu => ktr_units)); intro _ _ _ _ _ _ _ _ l1 _ _ _; (try k_lt l1); (try k_sweep))
  trivial
theorem line_Done1b_2 : True := by
  k_with "call ref!" => (k_here; (show wpAny _ _ (call (Value.ref 37) _) _ _ _); k_dflt (refine' c_hls_st ?B ?F ?X ?N ?T ?hk ?px ?py ?pz ?hd ?hu ?v ?ex ?ey ?ez ?_; (case B => k_asm); (case F => k_asm); (case X => k_asm); (case N => k_asm); (case T => k_asm); (case hk => rfl); (case px => (first | with_reducible assumption | exact Nat.succ_pos _)); (case py => (first | with_reducible assumption | exact Nat.succ_pos _)); (case pz => (first | with_reducible assumption | exact Nat.succ_pos _)); (case ex => rfl); (case ey => rfl); (case ez => rfl); (case v => assumption); (case hd => ktr_room); (case hu => ktr_units)); intro _ _ _ _ _ _ _ _ _ _ l1 _ _ _; (try k_lt l1); (try k_sweep))
  trivial
theorem line_Done1b_3 : True := by
  k_with "call ref!" => (k_here; (show wpAny _ _ (call (Value.ref 51) _) _ _ _); k_dflt (refine' c_rgb_st ?B ?F ?X ?N ?T ?hk ?px ?py ?pz ?hd ?hu ?h0 ?h1 ?s0 ?s1 ?l0 ?l1 ?ex ?ey ?ez ?_; (case B => k_asm); (case F => k_asm); (case X => k_asm); (case N => k_asm); (case T => k_asm); (case hk => rfl); (case px => (first | with_reducible assumption | exact Nat.succ_pos _)); (case py => (first | with_reducible assumption | exact Nat.succ_pos _)); (case pz => (first | with_reducible assumption | exact Nat.succ_pos _)); (case ex => first | with_reducible rfl | exact add_hue (by assumption) (by assumption) (by assumption) (by assumption)); (case ey => first | with_reducible rfl | exact half_eq (by assumption) (by assumption) (by assumption) (by first | exact d5 (by assumption) | omega) (by assumption)); (case ez => first | with_reducible rfl | exact half_eq (by assumption) (by assumption) (by assumption) (by first | exact d5 (by assumption) | omega) (by assumption)); (case h0 => omega); (case h1 => first | exact hue_r (by assumption) (by assumption) | omega); (case s0 => first | assumption | exact (half_r (by assumption) (by assumption) (by assumption) (d5 (by assumption))).1 | (rw [Int.fdiv_eq_ediv_of_nonneg _ (by decide)]; omega)); (case s1 => first | assumption | exact (half_r (by assumption) (by assumption) (by assumption) (d5 (by assumption))).2 | (rw [Int.fdiv_eq_ediv_of_nonneg _ (by decide)]; omega)); (case l0 => first | assumption | exact (half_r (by assumption) (by assumption) (by assumption) (d5 (by assumption))).1 | (rw [Int.fdiv_eq_ediv_of_nonneg _ (by decide)]; omega)); (case l1 => first | assumption | exact (half_r (by assumption) (by assumption) (by assumption) (d5 (by assumption))).2 | (rw [Int.fdiv_eq_ediv_of_nonneg _ (by decide)]; omega)); (case hd => ktr_room); (case hu => ktr_units)); intro _ _ _ _ _ _ _ _ l1 _ _ _; (try k_lt l1); (try k_sweep))
  trivial

theorem c_done0 {w : World} {p : Program} {loose : List Str} {mean : ExcName → Option Value} {mg mb : Str → Option Value} {dp un : Nat} {gd : Option (List Code)} {cn : Str} {cs : Scope} {a : Addr} {ccd : Value} {cl : List (Str × Addr)} {outer : List Env} {A₀ : Around} {base h₀ : Heap} {L : Addr} {m : Str → Option Value} {news : List (Addr × Obj)} {s : Shared} {Q E : Value → Shared → Prop}
    {t : Tri} {kd am : Int} {D1 D2 : Addr} {t1 t2 t3 t4 t5 : Tok}
    (B : Below A₀ base outer h₀) (F : Fr h₀ L s.heap m) (X : (hd.heap_1 w.params).In h₀) (N : News h₀ L s.heap ((D1, tup3 (.float (colF 0 t.h t.s t.l) t1) (.float (colF 16 t.h t.s t.l) t2) (.float (colF 32 t.h t.s t.l) t3)) :: (D2, tup2 (.int kd t4) (.int am t5)) :: news)) (T : Top p loose mean mg mb h₀) (hk : cs.kind = .function) (p1 : @LT.lt Nat _ 0 t1) (p2 : @LT.lt Nat _ 0 t2) (p3 : @LT.lt Nat _ 0 t3) (hdp : dp + 2 < recursionLimit) (hun : un + 16 < cLine)
    (v : Valid t.h t.s t.l) (d : OkDeed kd am) (se : t.s % 2 = 0) (le : t.l % 2 = 0)
    (hret : ∀ (r g b : UInt64) (D : Addr) (t1' t2' t3' : Tok) (h' : Heap) (tk' : Nat) (news' : List (Addr × Obj)), r = colF 0 (rk kd am t).h (rk kd am t).s (rk kd am t).l → g = colF 16 (rk kd am t).h (rk kd am t).s (rk kd am t).l → b = colF 32 (rk kd am t).h (rk kd am t).s (rk kd am t).l →
      Fr h₀ L h' m → News h₀ L h' news' → (D, tup3 (.float r t1') (.float g t2') (.float b t3')) ∈ news' → (∀ q ∈ news, q ∈ news') → AllLt D news → @LT.lt Nat _ 0 t1' → @LT.lt Nat _ 0 t2' → @LT.lt Nat _ 0 t3' → Q (.ref D) { s with heap := h', toks := tk' }) :
    wpAny (model PySem.Challenge.rw_mq0203_01.prog w) (ktrTop dp un gd cn cs L a ccd cl outer) (call (.ref 70) [.ref D1, .ref D2]) Q E s := by
  have v1 := v.h0
  have v2 := v.h1
  have v3 := v.s0
  have v4 := v.s1
  have v5 := v.l0
  have v6 := v.l1
  have d1 := d.k0
  have d2 := d.k3
  have d3 := d.a0
  have d4 := d.a1
  have d5 := d.a2
  have fn := fall_neg v1 v2
  refine wpAny_call ?_
  k_dflt cell_enter
  k_steps
  all_goals first
    | exact hret _ _ _ _ _ _ _ _ _ _ (col_0 (by with_reducible assumption) 0) (col_0 (by with_reducible assumption) 16) (col_0 (by with_reducible assumption) 32) (by k_asm) (by k_asm) (by k_mem) (fun q hq => by simp only [List.mem_cons, hq, or_true]) (by first | with_reducible assumption | (simp only [AllLt] at *; simp only [*])) (by with_reducible assumption) (by with_reducible assumption) (by with_reducible assumption)
    | exact hret _ _ _ _ _ _ _ _ _ _ (col_1 (by with_reducible assumption) (by with_reducible assumption) fn.1.symm) (col_1 (by with_reducible assumption) (by with_reducible assumption) fn.2.1.symm) (col_1 (by with_reducible assumption) (by with_reducible assumption) fn.2.2.symm) (by k_asm) (by k_asm) (by k_mem) (fun q hq => by simp only [List.mem_cons, hq, or_true]) (by first | with_reducible assumption | (simp only [AllLt] at *; simp only [*])) (by with_reducible assumption) (by with_reducible assumption) (by with_reducible assumption)
    | exact hret _ _ _ _ _ _ _ _ _ _ (col_2 (by with_reducible assumption) (by with_reducible assumption) (by with_reducible assumption) 0) (col_2 (by with_reducible assumption) (by with_reducible assumption) (by with_reducible assumption) 16) (col_2 (by with_reducible assumption) (by with_reducible assumption) (by with_reducible assumption) 32) (by k_asm) (by k_asm) (by k_mem) (fun q hq => by simp only [List.mem_cons, hq, or_true]) (by first | with_reducible assumption | (simp only [AllLt] at *; simp only [*])) (by with_reducible assumption) (by with_reducible assumption) (by with_reducible assumption)
    | exact hret _ _ _ _ _ _ _ _ _ _ (col_3 (by with_reducible assumption) (by with_reducible assumption) (by with_reducible assumption) 0) (col_3 (by with_reducible assumption) (by with_reducible assumption) (by with_reducible assumption) 16) (col_3 (by with_reducible assumption) (by with_reducible assumption) (by with_reducible assumption) 32) (by k_asm) (by k_asm) (by k_mem) (fun q hq => by simp only [List.mem_cons, hq, or_true]) (by first | with_reducible assumption | (simp only [AllLt] at *; simp only [*])) (by with_reducible assumption) (by with_reducible assumption) (by with_reducible assumption)
    | exact (over_no (by omega) (by with_reducible assumption)).elim
end
end
section
theorem clear_Ctr1 : True := by k_with_none; trivial
open PySem PySem.W PyProof.Rows
set_option maxRecDepth 100000
set_option maxHeartbeats 8000000
theorem deed_1 {n : Int} : OkDeed 0 (Int.fmod (Int.fdiv n 5) 32) := ⟨by decide, by decide, Int.fmod_nonneg_of_pos _ (by decide), Int.fmod_lt_of_pos _ (by decide), fun h => absurd rfl h⟩
theorem deed_2 {n : Int} (h : ¬ Int.fmod n 5 < 2) : OkDeed (Int.fmod n 5 - 1) (Int.fmod (Int.fdiv n 5) 2) := by
  have h1 := Int.fmod_lt_of_pos n (b := 5) (by decide)
  have h2 := Int.fmod_nonneg_of_pos (Int.fdiv n 5) (b := 2) (by decide)
  have h3 := Int.fmod_lt_of_pos (Int.fdiv n 5) (b := 2) (by decide)
  exact ⟨by omega, by omega, h2, by omega, fun _ => h3⟩
theorem fill4 : True := by
  have h2 : (hd.heap_1 = hd.heap_1 ∧ PySem.Challenge.rw_mq0203_01 = PySem.Challenge.rw_mq0203_01) → True := fun _ => trivial
  apply h2
  k_fill
  exact ⟨rfl, rfl⟩
set_option pp.deepTerms false
set_option pp.deepTerms.threshold 5
section
variable {w : World} {p : Program} {loose : List Str} {mean : ExcName → Option Value} {mg mb : Str → Option Value} {dp un : Nat} {gd : Option (List Code)} {cn : Str} {cs : Scope} {a : Addr} {ccd : Value} {cl : List (Str × Addr)} {outer : List Env} {A₀ : Around} {base h₀ : Heap} {L : Addr} {m : Str → Option Value} {news : List (Addr × Obj)} {s : Shared} {Q E : Value → Shared → Prop}
theorem c_deed {n : Int} {tn : Tok}
    (B : Below A₀ base outer h₀) (F : Fr h₀ L s.heap m) (X : (hd.heap_1 w.params).In h₀) (N : News h₀ L s.heap news) (T : Top p loose mean mg mb h₀) (hk : cs.kind = .function) (hdp : dp + 1 < recursionLimit) (hun : un + 8 < cLine)
    (hret : ∀ (kd am : Int) (D : Addr) (t1 t2 : Tok) (h' : Heap) (tk' : Nat), OkDeed kd am → Fr h₀ L h' m → News h₀ L h' ((D, tup2 (.int kd t1) (.int am t2)) :: news) → (∀ q ∈ news, q.1 < D) → Q (.ref D) { s with heap := h', toks := tk' }) :
    wpAny (model PySem.Challenge.rw_mq0203_01.prog w) (ktrTop dp un gd cn cs L a ccd cl outer) (call (.ref 63) [.int n tn]) Q E s := by
  refine wpAny_call ?_
  k_dflt cell_enter
  k_steps
  all_goals first
    | exact hret _ _ _ _ _ _ _ deed_1 (by k_asm) (by k_asm) (by k_asm)
    | exact hret _ _ _ _ _ _ _ (deed_2 (by with_reducible assumption)) (by k_asm) (by k_asm) (by k_asm)
theorem reck_h {t : Tri} {kd am x : Int} (h : x = if rk2S kd am t.s t.l ≠ 0 then Int.fmod (rkH kd am t.h) 16 else 0) : x = (rk kd am t).h := h
theorem c_reck0 {t : Tri} {kd am : Int} {D1 D2 : Addr} {t1 t2 t3 t4 t5 : Tok}
    (B : Below A₀ base outer h₀) (F : Fr h₀ L s.heap m) (X : (hd.heap_1 w.params).In h₀) (N : News h₀ L s.heap ((D1, tup3 (.int t.h t1) (.int t.s t2) (.int t.l t3)) :: (D2, tup2 (.int kd t4) (.int am t5)) :: news)) (T : Top p loose mean mg mb h₀) (hk : cs.kind = .function) (hdp : dp + 1 < recursionLimit) (hun : un + 8 < cLine)
    (hret : ∀ (x y z : Int) (D : Addr) (t1' t2' t3' : Tok) (h' : Heap) (tk' : Nat), Fr h₀ L h' m → News h₀ L h' ((D, tup3 (.int x t1') (.int y t2') (.int z t3')) :: (D1, tup3 (.int t.h t1) (.int t.s t2) (.int t.l t3)) :: (D2, tup2 (.int kd t4) (.int am t5)) :: news) → AllLt D news → x = (rk kd am t).h → y = (rk kd am t).s → z = (rk kd am t).l → Q (.ref D) { s with heap := h', toks := tk' }) :
    wpAny (model PySem.Challenge.rw_mq0203_01.prog w) (ktrTop dp un gd cn cs L a ccd cl outer) (call (.ref 77) [.ref D1, .ref D2]) Q E s := by
  refine wpAny_call ?_
  k_dflt cell_enter
  k_steps
  all_goals (refine hret _ _ _ _ _ _ _ _ _ (by k_asm) (by k_asm) (by first | with_reducible assumption | (simp only [AllLt] at *; simp only [*])) ?_ ?_ ?_)
  all_goals (clear hret B F X N T)
  all_goals (simp only [rk, rk2S, rkL, rkS, rkH]; first | rfl | (simp [*]; done) | (simp_all; done))
end
end
section
theorem clear_Ctr2 : True := by k_with_none; trivial
open PySem PySem.W PyProof.Rows
set_option maxRecDepth 100000
set_option maxHeartbeats 8000000
theorem fill5 : True := by
  have h2 : (hd.heap_1 = hd.heap_1 ∧ PySem.Challenge.rw_mq0203_01 = PySem.Challenge.rw_mq0203_01) → True := fun _ => trivial
  apply h2
  k_fill
  exact ⟨rfl, rfl⟩
set_option pp.deepTerms false
set_option pp.deepTerms.threshold 5
theorem neAll : ∀ {a : Addr} {l : List (Addr × Obj)}, AllLt a l → ∀ p ∈ l, p.1 ≠ a
  | _, [], _, _, hp => nomatch hp
  | _, _ :: _, h, p, hp => by
    rcases List.mem_cons.mp hp with rfl | hp
    · exact Nat.ne_of_lt h.1
    · exact neAll h.2 p hp
theorem lyne_Ctr2_1 : True := by
  k_with "k_all!" => (refine neAll ?_; (first | with_reducible assumption | exact allLt_of (by with_reducible assumption) | exact And.right (by with_reducible assumption) | exact And.right (And.right (by with_reducible assumption)) | exact And.right (And.right (And.right (by with_reducible assumption))) | exact And.right (And.right (And.right (And.right (by with_reducible assumption)))) | exact And.right (And.right (And.right (And.right (And.right (by with_reducible assumption)))))))
  trivial
section
variable {prog : Program} {w : World} {A : Around} {E : Value → Shared → Prop} {s : Shared} {h₀ : Heap} {L : Addr} {m : Str → Option Value} {news : List (Addr × Obj)}
theorem min2_K {a b : Int} {t u : Tok} {Q : Value → Shared → Prop} (hh : A.handled = none) (F : Fr h₀ L s.heap m) (N : News h₀ L s.heap news)
    (h : ∀ h' tk t', Fr h₀ L h' m → News h₀ L h' news → Q (.int (min a b) t') { s with heap := h', toks := tk }) : wpAny (model prog w) A (call (.builtin "min") [.int a t, .int b u]) Q E s :=
  min_two_N hh F N fun h' tk F' N' => by
    have e : (if b < a then b else a) = min a b := by split <;> omega
    rw [e]; exact h h' tk _ F' N'
theorem max2_K {a b : Int} {t u : Tok} {Q : Value → Shared → Prop} (hh : A.handled = none) (F : Fr h₀ L s.heap m) (N : News h₀ L s.heap news)
    (h : ∀ h' tk t', Fr h₀ L h' m → News h₀ L h' news → Q (.int (max a b) t') { s with heap := h', toks := tk }) : wpAny (model prog w) A (call (.builtin "max") [.int a t, .int b u]) Q E s :=
  max_two_N hh F N fun h' tk F' N' => by
    have e : (if b > a then b else a) = max a b := by split <;> omega
    rw [e]; exact h h' tk _ F' N'
end
theorem colP_lt {c h s l : Int} (v : Valid h s l) : (colP c h s l).natAbs < 2 ^ 53 := by
  have v3 := v.s0
  have v4 := v.s1
  have v5 := v.l0
  have v6 := v.l1
  have f0 : 0 ≤ fall c h := by unfold fall; omega
  have f1 : fall c h ≤ 8 := by unfold fall; omega
  have hP := prod_le v3 v4 f0 f1
  unfold colP
  have hl := prod_le v5 v6 (b := 32768 - s * fall c h) (B := 32768) (by omega) (by omega)
  omega
theorem col_div {c h s l : Int} (v : Valid h s l) : Float64.ofFrac (decide (l * (32768 - s * min (max (min (Int.fmod (3 * h - c) 48) (48 - Int.fmod (3 * h - c) 48) - 8) 0) 8) < 0) != decide ((134217728 : Int) < 0)) (l * (32768 - s * min (max (min (Int.fmod (3 * h - c) 48) (48 - Int.fmod (3 * h - c) 48) - 8) 0) 8)).natAbs (Int.natAbs 134217728) = colF c h s l :=
  div_k (n := colP c h s l) (colP_lt v) (k := 27) (by decide) (by decide)
theorem col_no {c h s l : Int} (v : Valid h s l) : ¬ Float64.isInf (Float64.ofFrac (decide (l * (32768 - s * min (max (min (Int.fmod (3 * h - c) 48) (48 - Int.fmod (3 * h - c) 48) - 8) 0) 8) < 0) != decide ((134217728 : Int) < 0)) (l * (32768 - s * min (max (min (Int.fmod (3 * h - c) 48) (48 - Int.fmod (3 * h - c) 48) - 8) 0) 8)).natAbs (Int.natAbs 134217728)) = true := by
  rw [col_div v]; unfold colF; rw [fl_isInf (colP_lt v) (by decide)]; exact Bool.false_ne_true
theorem wpAny_frzQ {α : Type} {M : Model} {A : Around} {t : Sem α} {Q : α → Shared → Prop} {E : Value → Shared → Prop} {s : Shared} (h : ∀ (K : α → Shared → Prop), (∀ v s', Q v s' → K v s') → wpAny M A t K E s) : wpAny M A t Q E s := h Q fun _ _ q => q
noncomputable def Stp (P : Prop) : Prop := P
theorem stp {P : Prop} (h : Stp P) : P := h
/-- one part told: its corner, and its float's token -/
noncomputable abbrev cpart (t : Tri) (q : Int × Tok) : Value := .float (colF q.1 t.h t.s t.l) q.2
noncomputable def CJ (m0 : Str → Option Value) (t : Tri) (lc lp I : Addr) (lo : Obj) (rest : List (Addr × Obj)) (r : List Value) (m' : Str → Option Value) (n' : List (Addr × Obj)) : Prop :=
  ∃ (dn td : List (Int × Tok)) (nn : Nat) (o1 o2 o3 : Option Value), r = td.map (fun q => Value.int q.1 q.2) ∧ dn.map (·.1) ++ td.map (·.1) = [0, 16, 32] ∧ (∀ q ∈ dn, @LT.lt Nat _ 0 q.2) ∧
    n' = (lc, lo) :: (lp, listOf (dn.map (cpart t)).toArray nn) :: rest ∧ m' = fun y => if y = Str.ofString "fall" then o1 else if y = Str.ofString "way" then o2 else if y = Str.ofString "corner" then o3 else m0 y
theorem three_self {m0 : Str → Option Value} {a b c : Str} : ∃ o1 o2 o3, m0 = fun y => if y = a then o1 else if y = b then o2 else if y = c then o3 else m0 y := by
  refine ⟨m0 a, m0 b, m0 c, funext fun y => ?_⟩
  by_cases h : y = a
  · rw [if_pos h, h]
  · rw [if_neg h]
    by_cases h2 : y = b
    · rw [if_pos h2, h2]
    · rw [if_neg h2]
      by_cases h3 : y = c
      · rw [if_pos h3, h3]
      · rw [if_neg h3]
theorem three_again {m0 : Str → Option Value} {a b c : Str} {o1 o2 o3 p1 p2 p3 : Option Value} : (fun y => if y = a then p1 else if y = b then p2 else if y = c then p3 else if y = a then o1 else if y = b then o2 else if y = c then o3 else m0 y) = fun y => if y = a then p1 else if y = b then p2 else if y = c then p3 else m0 y := by
  funext y
  by_cases h : y = a
  · simp only [h, if_true]
  · by_cases h2 : y = b
    · simp only [h, h2, if_true, if_false]
    · by_cases h3 : y = c
      · simp only [h3, if_true]
      · simp only [h, h2, h3, if_false]
theorem cc_start {m0 : Str → Option Value} {t : Tri} {lc lp I : Addr} {lo : Obj} {rest : List (Addr × Obj)} {ta tb tc : Tok} : CJ m0 t lc lp I lo rest [.int 0 ta, .int 16 tb, .int 32 tc] m0 ((lc, lo) :: (lp, listOf ([] : List Value).toArray 0) :: rest) := by
  obtain ⟨o1, o2, o3, e⟩ := three_self (m0 := m0) (a := Str.ofString "fall") (b := Str.ofString "way") (c := Str.ofString "corner")
  exact ⟨[], [(0, ta), (16, tb), (32, tc)], 0, o1, o2, o3, rfl, rfl, (fun _ h => nomatch h), rfl, e⟩
theorem cc_next {m0 : Str → Option Value} {t : Tri} {lc lp I : Addr} {lo : Obj} {rest : List (Addr × Obj)} {dn td : List (Int × Tok)} {nn : Nat} {c : Int} {tc tk : Tok} {o1 o2 o3 p1 p2 : Option Value} (e2 : dn.map (·.1) ++ ((c, tc) :: td).map (·.1) = [0, 16, 32]) (e3 : ∀ q ∈ dn, @LT.lt Nat _ 0 q.2) (ht : @LT.lt Nat _ 0 tk) :
    CJ m0 t lc lp I lo rest (td.map fun q => Value.int q.1 q.2) (fun y => if y = Str.ofString "fall" then p1 else if y = Str.ofString "way" then p2 else if y = Str.ofString "corner" then some (.int c tc) else if y = Str.ofString "fall" then o1 else if y = Str.ofString "way" then o2 else if y = Str.ofString "corner" then o3 else m0 y)
      ((lc, lo) :: (lp, listOf ((dn.map (cpart t)).toArray.push (.float (colF c t.h t.s t.l) tk)) (nn + 1)) :: rest) := by
  refine ⟨dn ++ [(c, tk)], td, nn + 1, p1, p2, some (.int c tc), rfl, ?_, ?_, ?_, three_again⟩
  · rw [← e2, List.map_append, List.append_assoc]; rfl
  · intro q hq
    rcases List.mem_append.mp hq with hq | hq
    · exact e3 q hq
    · rw [List.mem_singleton.mp hq]; exact ht
  · rw [List.map_append]; simp
theorem cc_off {lc lp I D1 : Addr} {x1 x2 x3 y1 y2 y3 : Obj} {news : List (Addr × Obj)} (hI : ∀ p ∈ (lc, x1) :: (lp, x2) :: (D1, x3) :: news, p.1 < I) : ∀ p ∈ (lc, y1) :: (lp, y2) :: (D1, y3) :: news, p.1 ≠ I := fun p hp => by
  rcases List.mem_cons.mp hp with rfl | hp
  · exact Nat.ne_of_lt (hI (lc, x1) List.mem_cons_self)
  · rcases List.mem_cons.mp hp with rfl | hp
    · exact Nat.ne_of_lt (hI (lp, x2) (List.mem_cons_of_mem _ List.mem_cons_self))
    · rcases List.mem_cons.mp hp with rfl | hp
      · exact Nat.ne_of_lt (hI (D1, x3) (List.mem_cons_of_mem _ (List.mem_cons_of_mem _ List.mem_cons_self)))
      · exact Nat.ne_of_lt (hI p (List.mem_cons_of_mem _ (List.mem_cons_of_mem _ (List.mem_cons_of_mem _ hp))))
theorem dn3 {dn : List (Int × Tok)} (e : dn.map (·.1) = [0, 16, 32]) : ∃ a b c, dn = [(0, a), (16, b), (32, c)] := by
  obtain ⟨⟨x, a⟩, l1, rfl, rfl, e1⟩ := List.map_eq_cons_iff.mp e
  obtain ⟨⟨y, b⟩, l2, rfl, rfl, e2⟩ := List.map_eq_cons_iff.mp e1
  obtain ⟨⟨z, c⟩, l3, rfl, rfl, e3⟩ := List.map_eq_cons_iff.mp e2
  rw [List.map_eq_nil_iff.mp e3]
  exact ⟨a, b, c, rfl⟩
section
variable {prog : Program} {w : World} {A : Around} {E : Value → Shared → Prop} {s : Shared} {env : Env} {h₀ : Heap} {x : Str} {body : List Stmt} {Q : Flow → Shared → Prop}
theorem list_rest {I : Addr} {lp : Addr × Obj} (J : List Value → (Str → Option Value) → List (Addr × Obj) → Prop)
    (step : ∀ v r m news, J (v :: r) m news → ∀ (it : Obj) h tk, it.cls = .type "list_iterator" → Fr h₀ env.locals h (fun y => if y = x then some v else m y) → News h₀ env.locals h ((I, it) :: news) →
      wpAny (model prog w) A (execs body env) (UnrPost h₀ env.locals { s with heap := h, toks := tk } I it (fun m' n' => lp ∈ n' ∧ J r m' n') Q) E { s with heap := h, toks := tk })
    (zero : ∀ m news, J [] m news → ∀ h tk, Fr h₀ env.locals h m → News h₀ env.locals h news → Q .next { s with heap := h, toks := tk }) :
    ∀ vs m news, J vs m news → ListRest prog w A E h₀ env x body Q s I lp vs m news
  | [], m, news, j => .zero (zero m news j)
  | v :: r, m, news, j => .succ fun it h tk hc F N => wpAny_mono (step v r m news j it h tk hc F N) (fun f s₂ p => by
      cases f with
      | ret v => exact p
      | brk => exact p
      | next =>
        obtain ⟨h', tk', m', n', e, F', N', off, hm, j'⟩ := p
        exact ⟨h', tk', m', n', e, F', N', off, hm, list_rest J step zero r m' n' j'⟩
      | cont =>
        obtain ⟨h', tk', m', n', e, F', N', off, hm, j'⟩ := p
        exact ⟨h', tk', m', n', e, F', N', off, hm, list_rest J step zero r m' n' j'⟩) fun _ _ e => e
end
theorem unr_end {h₀ : Heap} {L I : Addr} {it : Obj} {rest : (Str → Option Value) → List (Addr × Obj) → Prop} {s₁ : Shared} {h' : Heap} {tk : Nat} {m' : Str → Option Value} {news' : List (Addr × Obj)} (F : Fr h₀ L h' m') (N : News h₀ L h' ((I, it) :: news'))
    (off : ∀ p ∈ news', p.1 ≠ I) (r : rest m' news') : UnrEnd h₀ L s₁ I it rest { s₁ with heap := h', toks := tk } := ⟨h', tk, m', news', rfl, F, N, off, r⟩
theorem line_Ctr2_1 : True := by
  k_with "execs cons!" => (k_here; (with_reducible refine wpAny_gen1 ?_); intro _ _)
  trivial
theorem line_Ctr2_2 : True := by
  k_with "execs nil!" => (k_here; (with_reducible refine wpAny_gen1 ?_); intro _ _)
  trivial
theorem line_Ctr2_3 : True := by
  k_with "pyIter ref!" => (refine stp ?_)
  trivial
theorem line_Ctr2_4 : True := by
  k_with "call builtin:list.append!" => (k_here; (with_reducible show wpAny _ _ (call (Value.builtin _) [Value.ref _, _]) _ _ _); k_dflt (refine' append_K ?k1 ?k2 ?k3 ?_ ?z; (case k1 => k_asm); (case k2 => k_asm); (case k3 => k_upd); (case z => assumption); k_whole); intro _ _ _; (try k_sweep))
  trivial
theorem line_Ctr2_5 : True := by
  k_with "call builtin:max!" => ((with_reducible show wpAny _ _ (call _ [Value.int _ _, Value.int _ _]) _ _ _); k_dflt (refine' max2_K ?h1 ?h2 ?h3 ?_; (case h1 => rfl); (case h2 => k_asm); (case h3 => k_asm)); intro _ _ _ _ _; (try k_sweep))
  trivial
theorem line_Ctr2_6 : True := by
  k_with "call builtin:min!" => ((with_reducible show wpAny _ _ (call _ [Value.int _ _, Value.int _ _]) _ _ _); k_dflt (refine' min2_K ?h1 ?h2 ?h3 ?_; (case h1 => rfl); (case h2 => k_asm); (case h3 => k_asm)); intro _ _ _ _ _; (try k_sweep))
  trivial
section
variable {w : World} {p : Program} {loose : List Str} {mean : ExcName → Option Value} {mg mb : Str → Option Value} {dp un : Nat} {gd : Option (List Code)} {cn : Str} {cs : Scope} {a : Addr} {ccd : Value} {cl : List (Str × Addr)} {outer : List Env} {A₀ : Around} {base h₀ : Heap} {L : Addr} {m : Str → Option Value} {news : List (Addr × Obj)} {s : Shared} {Q E : Value → Shared → Prop}
theorem c_colour0 {t : Tri} {D1 : Addr} {t1 t2 t3 : Tok}
    (B : Below A₀ base outer h₀) (F : Fr h₀ L s.heap m) (X : (hd.heap_1 w.params).In h₀) (N : News h₀ L s.heap ((D1, tup3 (.int t.h t1) (.int t.s t2) (.int t.l t3)) :: news)) (T : Top p loose mean mg mb h₀) (hk : cs.kind = .function) (hdp : dp + 1 < recursionLimit) (hun : un + 8 < cLine) (v : Valid t.h t.s t.l)
    (hret : ∀ (x y z : UInt64) (D : Addr) (t1' t2' t3' : Tok) (h' : Heap) (tk' : Nat) (news' : List (Addr × Obj)), Fr h₀ L h' m → News h₀ L h' news' → (D, tup3 (.float x t1') (.float y t2') (.float z t3')) ∈ news' → (∀ q ∈ news, q ∈ news') → AllLt D news → x = colF 0 t.h t.s t.l → y = colF 16 t.h t.s t.l → z = colF 32 t.h t.s t.l → @LT.lt Nat _ 0 t1' → @LT.lt Nat _ 0 t2' → @LT.lt Nat _ 0 t3' → Q (.ref D) { s with heap := h', toks := tk' }) :
    wpAny (model PySem.Challenge.rw_mq0203_01.prog w) (ktrTop dp un gd cn cs L a ccd cl outer) (call (.ref 91) [.ref D1]) Q E s := by
  have v1 := v.h0
  have v2 := v.h1
  have v3 := v.s0
  have v4 := v.s1
  have v5 := v.l0
  have v6 := v.l1
  refine wpAny_call ?_
  k_dflt cell_enter
  k_steps
  rename_i lp hx1 lA hx2 tt tz lc h2 F2 N2 lB
  unfold Stp
  refine iter_listUnr (by rfl) F2 N2 List.mem_cons_self rfl rfl ?_
  intro I hI
  refine list_rest (CJ _ t lc lp I _ ((D1, _) :: news)) ?step ?zero _ _ _ cc_start
  case step =>
    intro v0 r m1 n1 j it h1 tk1 hc F3 N4
    obtain ⟨dn, td, nn, o1, o2, o3, e1, e2, e3, rfl, rfl⟩ := j
    cases td with
    | nil => exact nomatch e1
    | cons q td2 =>
    obtain ⟨c, tc⟩ := q
    obtain ⟨rfl, rfl⟩ := List.cons.inj e1
    have hlen : dn.length ≤ 3 := by
      have := congrArg List.length e2
      simp only [List.length_append, List.length_map, List.length_cons, List.length_nil] at this
      omega
    have hz : (dn.map (cpart t)).toArray.size ≤ sizeLine := by
      simp only [List.size_toArray, List.length_map, sizeLine_eq]; omega
    dsimp only at F3
    have hIp : @LT.lt Nat _ lp I := hI _ (List.mem_cons_of_mem _ List.mem_cons_self)
    clear N2 F2 hret F N
    generalize hI2 : (dn.map (cpart t)).toArray = its at N4 hz
    refine wpAny_frzQ ?_
    intro KQ hKQ
    k_steps
    · exact absurd (by with_reducible assumption) (col_no v)
    · rename_i h9 F9 N9 t9 ht9
      rw [col_div v] at N9
      subst hI2
      exact hKQ _ _ (unr_end F9 N9 (cc_off hI) ⟨List.mem_cons_self, cc_next e2 e3 (by first | with_reducible assumption | exact Nat.succ_pos _)⟩)
  case zero =>
    intro m1 n1 j h1 tk1 F3 N4
    obtain ⟨dn, td, nn, o1, o2, o3, e1, e2, e3, rfl, rfl⟩ := j
    cases td with
    | cons q td2 => exact nomatch e1
    | nil =>
    rw [List.map_nil, List.append_nil] at e2
    obtain ⟨ta, tb, tc, rfl⟩ := dn3 e2
    dsimp only [List.map_cons, List.map_nil, cpart] at F3 N4 ⊢
    clear F2 N2
    k_steps
    exact hret _ _ _ _ _ _ _ _ _ _ (by k_asm) (by k_asm) (by k_mem) (fun q hq => by simp only [List.mem_cons, hq, or_true]) (by first | with_reducible assumption | exact And.right (And.right (And.right (by with_reducible assumption))) | (simp only [AllLt] at *; simp only [*])) rfl rfl rfl (e3 (0, ta) List.mem_cons_self) (e3 (16, tb) (List.mem_cons_of_mem _ List.mem_cons_self)) (e3 (32, tc) (List.mem_cons_of_mem _ (List.mem_cons_of_mem _ List.mem_cons_self)))
end
end
section
theorem clear_Ctr3 : True := by k_with_none; trivial
open PySem PySem.W PyProof.Rows
set_option maxRecDepth 100000
set_option maxHeartbeats 8000000
structure Dd where
  a : Addr
  k : Int
  m : Int
  u : Tok
  w : Tok
noncomputable abbrev Dd.o (d : Dd) : Addr × Obj := (d.a, tup2 (.int d.k d.u) (.int d.m d.w))
structure Sd where
  a : Addr
  t : Tri
  u : Tok
  v : Tok
  w : Tok
noncomputable abbrev Sd.o (d : Sd) : Addr × Obj := (d.a, tup3 (.int d.t.h d.u) (.int d.t.s d.v) (.int d.t.l d.w))
noncomputable def run (t : Tri) : List Dd → List Tri
  | [] => [t]
  | d :: r => t :: run (rk d.k d.m t) r
noncomputable def JS (m0 : Str → Option Value) (l I : Addr) (S0 : Sd) (ds : List Dd) (news : List (Addr × Obj)) (r : List Value) (m' : Str → Option Value) (n' : List (Addr × Obj)) : Prop :=
  ∃ (S : List Sd) (x : Sd) (ds' : List Dd) (nn : Nat), r = ds'.map (fun d => Value.ref d.a) ∧ (∀ d ∈ ds', d ∈ ds) ∧ S.map (·.t) ++ run x.t ds' = run S0.t ds ∧ n' = (l, listOf ((S ++ [x]).map fun d => Value.ref d.a).toArray nn) :: ((S ++ [x]).map Sd.o ++ news) ∧ (S ++ [x]).length + ds'.length ≤ 65 ∧ (∀ p ∈ (S ++ [x]).map Sd.o ++ news, p.1 ≠ l ∧ p.1 ≠ I) ∧ (m' = m0 ∨ ∃ d, m' = fun y => if y = Str.ofString "deed" then some d else m0 y)
theorem news_mid {h₀ h : Heap} {L : Addr} {p q : Addr × Obj} {news : List (Addr × Obj)} (N : News h₀ L h (p :: news)) (hq : q ∈ news) : News h₀ L h (p :: ([q] ++ news)) := N.perm fun r hr => by
  rcases List.mem_cons.mp hr with rfl | hr
  · exact List.mem_cons_self
  · rcases List.mem_cons.mp hr with rfl | hr
    · exact List.mem_cons_of_mem _ hq
    · exact List.mem_cons_of_mem _ hr
theorem fr_two {h₀ h : Heap} {L : Addr} {m' m0 : Str → Option Value} {x : Str} {v : Value} (F3 : Fr h₀ L h (fun y => if y = x then some v else m' y)) (e6 : m' = m0 ∨ ∃ d, m' = fun y => if y = x then some d else m0 y) : Fr h₀ L h (fun y => if y = x then some v else m0 y) := by
  rcases e6 with rfl | ⟨d, rfl⟩
  · exact F3
  · have : (fun y => if y = x then some v else (fun y => if y = x then some d else m0 y) y) = fun y => if y = x then some v else m0 y := by
      funext y; dsimp only; split <;> rfl
    rw [this] at F3; exact F3
theorem js_news {h₀ h : Heap} {L I l : Addr} {it : Obj} {arr : Obj} {S : List Sd} {x : Sd} {D : Addr} {t' : Tri} {x1 x2 x3 : Tok} {news : List (Addr × Obj)}
    (N : News h₀ L h ((D, tup3 (.int t'.h x1) (.int t'.s x2) (.int t'.l x3)) :: (I, it) :: (l, arr) :: ((S ++ [x]).map Sd.o ++ news))) :
    News h₀ L h ((I, it) :: (l, arr) :: ((S ++ [x] ++ [Sd.mk D t' x1 x2 x3]).map Sd.o ++ news)) := N.perm fun p hp => by
  rw [List.map_append (l₂ := [_])] at hp
  simp only [List.mem_cons, List.mem_append, List.map_cons, List.map_nil, List.not_mem_nil, or_false] at hp ⊢
  rcases hp with h | h | (h | h) | h
  · exact .inr (.inl h)
  · exact .inr (.inr (.inl h))
  · exact .inr (.inr (.inr (.inl h)))
  · exact .inl h
  · exact .inr (.inr (.inr (.inr h)))
theorem js_off {I l : Addr} {arr : Obj} {S : List Sd} {x y : Sd} {news : List (Addr × Obj)} (off : ∀ p ∈ (S ++ [x]).map Sd.o ++ news, p.1 ≠ I) (hl : @LT.lt Nat _ l I) (hy : @LT.lt Nat _ I y.a) :
    ∀ p ∈ (l, arr) :: ((S ++ [x] ++ [y]).map Sd.o ++ news), p.1 ≠ I := fun p hp => by
  rw [List.map_append (l₂ := [_])] at hp
  rcases List.mem_cons.mp hp with rfl | hp
  · exact Nat.ne_of_lt hl
  · rcases List.mem_append.mp hp with hp | hp
    · rcases List.mem_append.mp hp with hp | hp
      · exact off p (List.mem_append_left _ hp)
      · rw [List.mem_singleton.mp hp]; exact Nat.ne_of_gt hy
    · exact off p (List.mem_append_right _ hp)
theorem js_next {m0 : Str → Option Value} {l I : Addr} {S0 : Sd} {ds : List Dd} {news : List (Addr × Obj)} {S : List Sd} {x y : Sd} {d : Dd} {ds2 : List Dd} {nn : Nat} (e2 : ∀ q ∈ d :: ds2, q ∈ ds) (e3 : S.map (·.t) ++ run x.t (d :: ds2) = run S0.t ds) (et : y.t = rk d.k d.m x.t)
    (off : ∀ p ∈ (S ++ [x]).map Sd.o ++ news, p.1 ≠ l ∧ p.1 ≠ I) (hI : @LT.lt Nat _ I y.a) (hl : @LT.lt Nat _ l y.a) (e5 : (S ++ [x]).length + (d :: ds2).length ≤ 65) :
    JS m0 l I S0 ds news (ds2.map fun d => Value.ref d.a) (fun y => if y = Str.ofString "deed" then some (Value.ref d.a) else m0 y) ((l, listOf (((S ++ [x]).map fun d => Value.ref d.a).toArray.push (.ref y.a)) (nn + 1)) :: ((S ++ [x] ++ [y]).map Sd.o ++ news)) := by
  refine ⟨S ++ [x], y, ds2, nn + 1, rfl, fun q hq => e2 q (List.mem_cons_of_mem _ hq), ?_, ?_, ?_, ?_, .inr ⟨_, rfl⟩⟩
  · rw [← e3, List.map_append, List.append_assoc]
    show _ ++ ([x.t] ++ run y.t ds2) = _ ++ (x.t :: run (rk d.k d.m x.t) ds2)
    rw [et]; rfl
  · rw [List.map_append (l₂ := [y])]
    simp
  · simp only [List.length_append, List.length_cons, List.length_nil] at e5 ⊢; omega
  · intro p hp
    rw [List.map_append (l₂ := [_])] at hp
    rcases List.mem_append.mp hp with hp | hp
    · rcases List.mem_append.mp hp with hp | hp
      · exact off p (List.mem_append_left _ hp)
      · rw [List.mem_singleton.mp hp]; exact ⟨Nat.ne_of_gt hl, Nat.ne_of_gt hI⟩
    · exact off p (List.mem_append_right _ hp)
theorem lt_all : ∀ {a : Addr} {l : List (Addr × Obj)}, AllLt a l → ∀ p ∈ l, p.1 < a
  | _, [], _, _, hp => nomatch hp
  | _, _ :: _, h, p, hp => by
    rcases List.mem_cons.mp hp with rfl | hp
    · exact h.1
    · exact lt_all h.2 p hp
theorem fill6 : True := by
  have h2 : (hd.heap_1 = hd.heap_1 ∧ PySem.Challenge.rw_mq0203_01 = PySem.Challenge.rw_mq0203_01) → True := fun _ => trivial
  apply h2
  k_fill
  exact ⟨rfl, rfl⟩
set_option pp.deepTerms false
set_option pp.deepTerms.threshold 5
section
variable {prog : Program} {w : World} {A : Around} {E : Value → Shared → Prop} {s : Shared} {h₀ : Heap} {L l : Addr} {m : Str → Option Value} {news news' : List (Addr × Obj)} {its : Array Value} {x : Value} {n : Nat}
theorem sub_last {value slice : PySem.Expr} {u : Tok} {Q : Value → Shared → Prop} (N : News h₀ L s.heap news) (hm : (l, listOf its n) ∈ news) (hx : its[its.size - 1]? = some x) (h : Q x s)
    (hs : subscripted slice false (.ref l) (.int (-1) u) = operate [.ref l, .int (-1) u] (getItem (.ref l) (.int (-1) u)) := by with_unfolding_all rfl) :
    wpAny (model prog w) A (subscriptTail value slice (.ref l) (.int (-1) u)) Q E s := by
  have hl : s.heap.IsList l its := ⟨_, (N _ hm).1, rfl, n, rfl⟩
  have h0 : 0 < its.size := by
    rcases Nat.eq_zero_or_pos its.size with e | e
    · rw [e, Array.getElem?_eq_none (by omega)] at hx; exact nomatch hx
    · exact e
  exact subscriptTail_builtinR hl.typeIs slot_list_getitem.lookup (wpAny_getItem_list_neg (Q := fun r s' => r = _ ∧ Q r s') hl (by decide) (by omega) (by decide) (by rw [show (-1 : Int) + its.size = ((its.size - 1 : Nat) : Int) by rw [Int.natCast_sub h0]; exact Int.add_comm ..]; exact hx) ⟨rfl, h⟩) hs
end
section
variable {w : World} {p : Program} {loose : List Str} {mean : ExcName → Option Value} {mg mb : Str → Option Value} {dp un : Nat} {gd : Option (List Code)} {cn : Str} {cs : Scope} {a : Addr} {ccd : Value} {cl : List (Str × Addr)} {outer : List Env} {A₀ : Around} {base h₀ : Heap} {L : Addr} {m : Str → Option Value} {news : List (Addr × Obj)} {s : Shared} {Q E : Value → Shared → Prop}
theorem c_reck {t : Tri} {kd am : Int} {D1 D2 : Addr} {t1 t2 t3 t4 t5 : Tok}
    (B : Below A₀ base outer h₀) (F : Fr h₀ L s.heap m) (X : (hd.heap_1 w.params).In h₀) (N : News h₀ L s.heap news) (m1 : (D1, tup3 (.int t.h t1) (.int t.s t2) (.int t.l t3)) ∈ news) (m2 : (D2, tup2 (.int kd t4) (.int am t5)) ∈ news) (T : Top p loose mean mg mb h₀) (hk : cs.kind = .function) (hdp : dp + 1 < recursionLimit) (hun : un + 8 < cLine)
    (hret : ∀ (t' : Tri) (D : Addr) (t1' t2' t3' : Tok) (h' : Heap) (tk' : Nat), Fr h₀ L h' m → News h₀ L h' ((D, tup3 (.int t'.h t1') (.int t'.s t2') (.int t'.l t3')) :: news) → (∀ q ∈ news, q.1 < D) → t' = rk kd am t → Q (.ref D) { s with heap := h', toks := tk' }) :
    wpAny (model PySem.Challenge.rw_mq0203_01.prog w) (ktrTop dp un gd cn cs L a ccd cl outer) (call (.ref 77) [.ref D1, .ref D2]) Q E s :=
  c_reck0 (news := news) B F X (N.perm fun q hq => by
    rcases List.mem_cons.mp hq with rfl | hq
    · exact m1
    · rcases List.mem_cons.mp hq with rfl | hq
      · exact m2
      · exact hq) T hk hdp hun fun x y z D t1' t2' t3' h' tk' F' N' al ex ey ez => hret ⟨x, y, z⟩ D t1' t2' t3' h' tk' F' (N'.perm fun q hq => by
    rcases List.mem_cons.mp hq with rfl | hq
    · exact List.mem_cons_self
    · exact List.mem_cons_of_mem _ (List.mem_cons_of_mem _ (List.mem_cons_of_mem _ hq))) (lt_all al) (by rw [ex, ey, ez])
section
theorem lyne_Ctr3_2 : True := by
  k_with "k_dflt_done!" => first | with_reducible assumption | with_reducible exact List.mem_cons_self | (with_reducible refine List.mem_cons_of_mem _ ?_; k_dflt done)
  trivial
theorem line_Ctr3_1 : True := by
  k_with "call ref!" => (k_here; (show wpAny _ _ (call (Value.ref 77) _) _ _ _); k_dflt (refine' c_reck ?B ?F ?X ?N ?m1 ?m2 ?T ?hk ?hd ?hu ?_; (case B => k_asm); (case F => k_asm); (case X => k_asm); (case N => k_asm); (case m1 => k_dflt done); (case m2 => k_dflt done); (case T => k_asm); (case hk => rfl); (case hd => ktr_room); (case hu => ktr_units)); intro _ _ _ _ _ _ _ _ _ lt7 _; (try k_lt lt7); (try k_sweep))
  trivial
theorem lyne_Ctr3_1 : True := by
  k_with "k_all!" => with_reducible assumption
  trivial
theorem line_Ctr3_2 : True := by
  k_with "pyIter ref!" => (refine stop_mark ?_)
  trivial
theorem line_Ctr3_3 : True := by
  k_with "subscriptTail!" => (k_here; k_dflt (refine' sub_last ?N ?m ?x ?_ ?s; (case N => k_asm); (case m => k_mem); (case x => assumption); (case s => with_unfolding_all rfl)))
  trivial
theorem line_Ctr3_4 : True := by
  k_with "call builtin:list.append!" => (k_here; (with_reducible show wpAny _ _ (call (Value.builtin _) [Value.ref _, _]) _ _ _); k_dflt (refine' append_K ?k1 ?k2 ?k3 ?_ ?z; (case k1 => k_asm); (case k2 => k_asm); (case k3 => k_upd); (case z => assumption); k_whole); intro _ _ _; (try k_sweep))
  trivial
theorem line_Ctr3_5 : True := by
  k_with "exec For Name Name cons nil!" => (k_here; (with_unfolding_all refine' For_invVF ?kF ?k1 ?k2 ?_; (case kF => k_asm); (case k1 => exact rfl); (case k2 => exact rfl); k_whole))
  trivial
theorem c_states {S0 : Sd} {ds : List Dd} {DL : Addr} {n : Nat}
    (B : Below A₀ base outer h₀) (F : Fr h₀ L s.heap m) (X : (hd.heap_1 w.params).In h₀) (N : News h₀ L s.heap news) (mS : (S0.a, tup3 (.int S0.t.h S0.u) (.int S0.t.s S0.v) (.int S0.t.l S0.w)) ∈ news) (mL : (DL, listOf (ds.map fun d => Value.ref d.a).toArray n) ∈ news) (mD : ∀ d ∈ ds, d.o ∈ news) (hl : ds.length ≤ 64) (T : Top p loose mean mg mb h₀) (hk : cs.kind = .function) (hdp : dp + 2 < recursionLimit) (hun : un + 16 < cLine)
    (hret : ∀ (R : Addr) (S : List Sd) (h' : Heap) (tk' n' : Nat), Fr h₀ L h' m → News h₀ L h' ((R, listOf (S.map fun d => Value.ref d.a).toArray n') :: (S.map Sd.o ++ news)) → S.map (·.t) = run S0.t ds → (∀ q ∈ news, q.1 < R) → Q (.ref R) { s with heap := h', toks := tk' }) :
    wpAny (model PySem.Challenge.rw_mq0203_01.prog w) (ktrTop dp un gd cn cs L a ccd cl outer) (call (.ref 84) [.ref S0.a, .ref DL]) Q E s := by
  refine wpAny_call ?_
  k_dflt cell_enter
  k_steps
  rename_i l1 h2 F2 N2
  have N3 := news_mid (q := S0.o) N2 mS
  refine iter_listUnr (by rfl) F2 N3 (List.mem_cons_of_mem _ <| List.mem_cons_of_mem _ mL) rfl rfl ?_
  intro I hI
  refine list_rest (JS _ _ I S0 ds news) ?step ?zero _ _ _ ⟨[], S0, ds, _, rfl, fun _ h => h, rfl, rfl, by simp only [List.nil_append, List.length_cons, List.length_nil]; omega, ?off, .inl rfl⟩
  case off =>
    intro p hp
    refine ⟨Nat.ne_of_lt (l1 p ?_), Nat.ne_of_lt (hI p (List.mem_cons_of_mem _ hp))⟩
    rcases List.mem_cons.mp hp with rfl | hp
    · exact mS
    · exact hp
  case step =>
    intro v r m1 n1 j it h1 tk1 hc F3 N4
    obtain ⟨S, x, ds', nn, e1, e2, e3, rfl, e5, off0, e6⟩ := j
    cases ds' with
    | nil => exact nomatch e1
    | cons d ds2 =>
    obtain ⟨rfl, rfl⟩ := List.cons.inj e1
    have F4 := fr_two F3 e6
    clear F3 e6 N N2 N3 F2 hret
    have mx : (x.a, tup3 (.int x.t.h x.u) (.int x.t.s x.v) (.int x.t.l x.w)) ∈ (S ++ [x]).map Sd.o ++ news := List.mem_append_left _ (List.mem_map_of_mem (List.mem_append_right _ List.mem_cons_self))
    have md : (d.a, tup2 (.int d.k d.u) (.int d.m d.w)) ∈ (S ++ [x]).map Sd.o ++ news := List.mem_append_right _ (mD d (e2 d List.mem_cons_self))
    have mL : (DL, W.listOf (ds.map fun d => Value.ref d.a).toArray n) ∈ (S ++ [x]).map Sd.o ++ news := List.mem_append_right _ mL
    have hx : ((S ++ [x]).map fun d => Value.ref d.a).toArray[((S ++ [x]).map fun d => Value.ref d.a).toArray.size - 1]? = some (Value.ref x.a) := by simp
    have hz : ((S ++ [x]).map fun d => Value.ref d.a).toArray.size ≤ sizeLine := by
      simp only [List.size_toArray, List.length_map, sizeLine_eq]; omega
    have hIl : @LT.lt Nat _ _ I := hI _ List.mem_cons_self
    dsimp only at hIl
    have off : ∀ p ∈ (S ++ [x]).map Sd.o ++ news, p.1 ≠ _ := fun p hp => (off0 p hp).1
    generalize hI2 : ((S ++ [x]).map fun d => Value.ref d.a).toArray = its at N4 hx hz
    generalize hT2 : (S ++ [x]).map Sd.o ++ news = T2 at N4 mx md mL off
    k_steps
    rename_i t' D' x1 x2 x3 h8 tk8 et h9 F9 N9
    have l3 := lt7
    subst hT2 hI2
    refine unr_end (news' := (_, listOf (((S ++ [x]).map fun d => Value.ref d.a).toArray.push (.ref D')) (nn + 1)) :: ((S ++ [x] ++ [Sd.mk D' t' x1 x2 x3]).map Sd.o ++ news)) F9 (js_news N9) (js_off (fun p hp => (off0 p hp).2) hIl l3.1) ⟨?_, js_next (y := ⟨D', t', x1, x2, x3⟩) e2 e3 et off0 l3.1 l3.2.1 e5⟩
    exact List.mem_cons_of_mem _ (List.mem_append_right _ ‹_›)
  case zero =>
    intro m1 n1 j h1 tk1 F3 N4
    obtain ⟨S, x, ds', nn, e1, e2, e3, rfl, e5, off, e6⟩ := j
    cases ds' with
    | cons d r => exact nomatch e1
    | nil =>
    clear F2 N2 N3
    dsimp only
    generalize hI2 : ((S ++ [x]).map fun d => Value.ref d.a).toArray = its at N4
    generalize hT2 : (S ++ [x]).map Sd.o ++ news = T2 at N4 off
    rcases e6 with rfl | ⟨d0, rfl⟩ <;> k_steps
    all_goals
      subst hT2 hI2
      exact hret _ (S ++ [x]) _ _ _ (by k_asm) (by k_asm) (by rw [List.map_append]; exact e3) l1
end
end
end
section
theorem clear_Red1 : True := by k_with_none; trivial
open PySem PySem.Calls PySem.W PyProof.Rows PySem.Spec
set_option maxRecDepth 100000
set_option maxHeartbeats 8000000
theorem fill7 : True := by
  have h2 : (hd.heap_1 = hd.heap_1 ∧ PySem.Challenge.rw_mq0203_01 = PySem.Challenge.rw_mq0203_01) → True := fun _ => trivial
  apply h2
  k_fill
  exact ⟨rfl, rfl⟩
noncomputable def LstIt (o : Obj) (ax : Addr) (i : Nat) : Prop := o.cls = .type "list_iterator" ∧ o.data = .fields #[.ref ax, rawInt i]
section
variable {prog : Program} {w : World} {A : Around} {E : Value → Shared → Prop} {s : Shared} {h₀ : Heap} {L ax I : Addr} {m : Str → Option Value} {news : List (Addr × Obj)} {its : Array Value} {n i : Nat} {io : Obj}
theorem LstIt.at {h : Heap} (a : LstIt io ax i) (ho : h.get? I = some io) : h.IsListIter I ax i := ⟨io, ho, a.1, a.2⟩
theorem lst_iter {Q : Value → Shared → Prop} (F : Fr h₀ L s.heap m) (N : News h₀ L s.heap news) (hm : (ax, listOf its n) ∈ news)
    (h : ∀ (I : Addr) h' oI, Fr h₀ L h' m → News h₀ L h' ((I, oI) :: news) → (∀ p ∈ news, p.1 < I) → LstIt oI ax 0 → Q (.ref I) { s with heap := h' }) :
    wpAny (model prog w) A (call (.builtin "iter") [.ref ax]) Q E s := by
  have hl : s.heap.IsList ax its := ⟨_, (N _ hm).1, rfl, n, rfl⟩
  refine call_function_entry (by decide +kernel) (by decide +kernel) kdk_entry_iter (kdk_args_iter _) ?_
  unfold Builtin.«iter»
  refine wpAny_bind (m := someArgs "iter" 1 2 _) (wpAny_of_eq (a := [Value.ref ax]) (by first | rfl | kernel_rfl!) ?_)
  show wpAny _ _ (pyIter (.ref ax) >>= _) _ _ _
  refine wpAny_bind (wpAny_pyIter_list hl ?_)
  exact wpAny_pure ⟨_, rfl, h _ _ _ (F.push _) (News.push F N _ rfl) (fun q hq => Heap.lt_size (N q hq).1) ⟨rfl, rfl⟩⟩
theorem lst_walks (hh : A.handled = none) (hne : ax ≠ I) (hi : i ≤ its.size) :
    Walks prog w A I [I, ax] [I] (its.size - i) (fun j v => its[i + j]? = some v) (fun j h => h.IsListIter I ax (i + j) ∧ h.IsList ax its) where
  sub := (Walks.list (prog := prog) (w := w) hh I ax hne its).sub
  frame := fun j h h' st k => (Walks.list (prog := prog) (w := w) hh I ax hne its).frame (i + j) h h' st k
  item := fun j s Q E hj st k => (Walks.list (prog := prog) (w := w) hh I ax hne its).item (i + j) s Q E (by omega) st k
  done := fun s Q E st k => (Walks.list (prog := prog) (w := w) hh I ax hne its).done s Q E (by rw [show i + (its.size - i) = its.size by omega] at st; exact st) k
  self := fun j s Q E st k => (Walks.list (prog := prog) (w := w) hh I ax hne its).self (i + j) s Q E st k
end
section
variable {prog : Program} {w : World} {A : Around} {E : Value → Shared → Prop} {s : Shared} {env : Env} {h₀ : Heap} {x : Str} {body : List Stmt} {Q : Flow → Shared → Prop} {I ax : Addr} {io : Obj} {its : Array Value} {n i0 : Nat} {m₀ : Str → Option Value} {news : List (Addr × Obj)}
theorem iter_it (hh : A.handled = none) (F : Fr h₀ env.locals s.heap m₀) (N : News h₀ env.locals s.heap ((I, io) :: news)) (hi : LstIt io ax i0) (hm : (ax, listOf its n) ∈ news) (hle : i0 ≤ its.size) (off : ∀ p ∈ news, p.1 ≠ I)
    (J : Nat → (Str → Option Value) → List (Addr × Obj) → Prop) (h0 : J i0 m₀ news)
    (step : ∀ i v m₁ T own h tk, its[i]? = some v → J i m₁ T → (∀ p ∈ T, p.1 ≠ I) → (∃ o, (I, o) ∈ own) → Fr h₀ env.locals h (fun y => if y = x then some v else m₁ y) → News h₀ env.locals h (own ++ T) →
      wpAny (model prog w) A (execs body env) (LoopStepV h₀ env.locals [I] own (J (i + 1)) { s with heap := h, toks := tk } (fun v s' => Q (.ret v) s') fun s' => Q .next s') E { s with heap := h, toks := tk })
    (zero : ∀ m₁ T h tk, J its.size m₁ T → Fr h₀ env.locals h m₁ → News h₀ env.locals h T → Q .next { s with heap := h, toks := tk }) :
    wpAny (model prog w) A (pyIter (.ref I)) (fun it s₂ => LoopAtV prog w A h₀ env x body Q E it s₂) E s := by
  have hI := N _ List.mem_cons_self
  have ha := N _ (List.mem_cons_of_mem _ hm)
  have hne : ax ≠ I := off _ hm
  have W := lst_walks (prog := prog) (w := w) (its := its) (i := i0) hh hne hle
  have st : s.heap.IsListIter I ax (i0 + 0) ∧ s.heap.IsList ax its := ⟨hi.at hI.1, _, ha.1, rfl, n, rfl⟩
  refine W.self 0 s _ _ st ⟨I, [I, ax], [I], _, _, _, m₀, news, fun j => J (i0 + j), rfl, W, ?_, ?_, ?_, st, F, fun p hp => N p (List.mem_cons_of_mem _ hp), h0, ?_, ?_⟩
  · intro h
    rcases List.mem_cons.mp h with e | h
    · exact hI.2.1 e.symm
    · exact ha.2.1 (List.mem_singleton.mp h).symm
  · intro b hb; rw [List.mem_singleton.mp hb]; exact hI.2.2
  · intro p hp h; exact off p hp (List.mem_singleton.mp h)
  · rintro j v m₁ T s₁ own ⟨h, tk, rfl⟩ _ hv hJ ho _ _ hall st1 F₁ N₁
    obtain ⟨o, go, _⟩ := st1.1
    exact step (i0 + j) v m₁ T own h tk hv hJ (fun p hp e => ho p hp (List.mem_singleton.mpr e)) ⟨o, hall I List.mem_cons_self hI.2.2 o go⟩ F₁ N₁
  · intro h tk m₁ T F₁ N₁ _ hJ
    rw [show i0 + (its.size - i0) = its.size by omega] at hJ
    exact zero m₁ T h tk hJ F₁ N₁
end
noncomputable def CallK (w : World) (nd nu : Nat) (f : Value) (args : List Value) (P : List (Addr × Obj) → Prop) (R : Value → List (Addr × Obj) → Prop) : Prop :=
  ∀ ⦃p : Program⦄ ⦃loose : List Str⦄ ⦃mean : ExcName → Option Value⦄ ⦃mg mb : Str → Option Value⦄ ⦃dp un : Nat⦄ ⦃gd : Option (List Code)⦄ ⦃cn : Str⦄ ⦃cs : Scope⦄ ⦃a : Addr⦄ ⦃ccd : Value⦄ ⦃cl : List (Str × Addr)⦄ ⦃outer : List Env⦄ ⦃A₀ : Around⦄ ⦃base h₀ : Heap⦄ ⦃L : Addr⦄ ⦃m : Str → Option Value⦄ ⦃news : List (Addr × Obj)⦄ ⦃s : Shared⦄ ⦃Q E : Value → Shared → Prop⦄,
    Below A₀ base outer h₀ → Fr h₀ L s.heap m → (hd.heap_1 w.params).In h₀ → News h₀ L s.heap news → Top p loose mean mg mb h₀ → cs.kind = .function → dp + nd < recursionLimit → un + nu < cLine → P news →
    (∀ r fresh h' tk', Fr h₀ L h' m → News h₀ L h' (fresh ++ news) → (∀ q ∈ news, ∀ q' ∈ fresh, @LT.lt Nat _ q.1 q'.1) → R r fresh → Q r { s with heap := h', toks := tk' }) →
    wpAny (model PySem.Challenge.rw_mq0203_01.prog w) (ktrTop dp un gd cn cs L a ccd cl outer) (call f args) Q E s
theorem red_perm {fr own T news : List (Addr × Obj)} : ∀ p ∈ own ++ (fr ++ T ++ news), p ∈ fr ++ (own ++ (T ++ news)) := fun p hp => by
  simp only [List.mem_append] at hp ⊢
  rcases hp with h | (h | h) | h
  · exact .inr (.inl h)
  · exact .inl h
  · exact .inr (.inr (.inl h))
  · exact .inr (.inr (.inr h))
theorem red_off {I : Addr} {oI : Obj} {fr own T news : List (Addr × Obj)} (lt : ∀ q ∈ own ++ (T ++ news), ∀ q' ∈ fr, @LT.lt Nat _ q.1 q'.1) (hoI : (I, oI) ∈ own) (off : ∀ p ∈ T ++ news, p.1 ≠ I) : ∀ p ∈ fr ++ T ++ news, p.1 ∉ [I] := fun p hp h => by
  have h := List.mem_singleton.mp h
  rw [List.append_assoc] at hp
  rcases List.mem_append.mp hp with q | q
  · exact absurd h (Nat.ne_of_gt (lt _ (List.mem_append_left _ hoI) p q))
  · exact off p q h
theorem red_lt {fr own T news : List (Addr × Obj)} (lt : ∀ q ∈ own ++ (T ++ news), ∀ q' ∈ fr, @LT.lt Nat _ q.1 q'.1) (hlt : ∀ q ∈ news, ∀ q' ∈ T, @LT.lt Nat _ q.1 q'.1) : ∀ q ∈ news, ∀ q' ∈ fr ++ T, @LT.lt Nat _ q.1 q'.1 := fun q hq q' hq' => by
  rcases List.mem_append.mp hq' with h | h
  · exact lt q (List.mem_append_right _ (List.mem_append_right _ hq)) q' h
  · exact hlt q hq q' h
theorem lt_nil {news : List (Addr × Obj)} : ∀ q ∈ news, ∀ q' ∈ ([] : List (Addr × Obj)), @LT.lt Nat _ q.1 q'.1 := fun _ _ _ h => nomatch h
noncomputable def JR (base : Str → Option Value) (I : Addr) (news : List (Addr × Obj)) (Inv : Nat → Value → List (Addr × Obj) → Prop) (i : Nat) (m₁ : Str → Option Value) (T' : List (Addr × Obj)) : Prop :=
  ∃ acc T, T' = T ++ news ∧ Inv i acc T ∧ (∀ q ∈ news, ∀ q' ∈ T, @LT.lt Nat _ q.1 q'.1) ∧ ((m₁ = fun y => if y = Str.ofString "value" then some acc else base y) ∨ ∃ e, m₁ = fun y => if y = Str.ofString "value" then some acc else if y = Str.ofString "element" then some e else base y)
set_option pp.deepTerms false
set_option pp.deepTerms.threshold 5
section
variable {w : World} {p : Program} {loose : List Str} {mean : ExcName → Option Value} {mg mb : Str → Option Value} {dp un : Nat} {gd : Option (List Code)} {cn : Str} {cs : Scope} {a : Addr} {ccd : Value} {cl : List (Str × Addr)} {outer : List Env} {A₀ : Around} {base h₀ : Heap} {L : Addr} {m : Str → Option Value} {news : List (Addr × Obj)} {s : Shared} {Q E : Value → Shared → Prop}
section
theorem lyne_Red1_1 : True := by
  k_with "k_dflt_done!" => first | with_reducible assumption | with_reducible exact List.mem_cons_self | (with_reducible refine List.mem_cons_of_mem _ ?_; k_dflt done)
  trivial
theorem line_Red1_1 : True := by
  k_with "pyIter ref!" => (refine stop_mark ?_)
  trivial
theorem line_Red1_2 : True := by
  k_with "call builtin:iter!" => (k_here; (with_reducible show wpAny _ _ (call (Value.builtin "iter") [Value.ref _]) _ _ _); k_dflt (refine' lst_iter ?F ?N ?m ?_; (case F => k_asm); (case N => k_asm); (case m => k_dflt done)); intro _ _ _ _ _ lt7 _; (try k_lt lt7))
  trivial
theorem line_Red1_3 : True := by
  k_with "exec For Name Name cons nil!" => (k_here; (with_unfolding_all refine' For_invVF ?kF ?k1 ?k2 ?_; (case kF => k_asm); (case k1 => exact rfl); (case k2 => exact rfl); k_whole))
  trivial
theorem line_Red1_4 : True := by
  k_with "call ref!" => (k_here; k_dflt (refine' hc ?B ?F ?X ?N ?T ?hk ?hd ?hu ?P ?_; (case B => k_asm); (case F => k_asm); (case X => k_asm); (case N => k_asm); (case T => k_asm); (case hk => rfl); (case hd => first | ktr_room | (simp only [ktrTop]; omega)); (case hu => first | ktr_units | omega); (case P => exact fun q hq => List.mem_append_right _ hq)); intro r5 fr5 h5 tk5 F5 N5 lt5 hr5)
  trivial
theorem line_Red1_5 : True := by
  k_with "callWith ref!" => (k_here; k_dflt (refine' callWith_F ?k1 ?_; (case k1 => exact hfn (by k_asm) (by k_asm) (by k_asm) (fun q hq => List.mem_append_right _ (List.mem_append_right _ hq))); k_whole))
  trivial
theorem line_Red1_6 : True := by
  k_with "And!" => (refine ⟨hfn (by k_asm) (by k_asm) (by k_asm) (fun q hq => List.mem_append_right _ (List.mem_append_right _ hq)), ?_⟩; try dsimp only [List.nil_append, List.cons_append])
  trivial
theorem c_reduce3 {f : Addr} {DL V0 : Addr} {its : Array Value} {n nd nu : Nat} {oV : Obj} (Inv : Nat → Value → List (Addr × Obj) → Prop)
    (hfn : ∀ {g h : Heap} {L : Addr} {m : Str → Option Value} {l : List (Addr × Obj)}, News g L h l → Fr g L h m → (hd.heap_1 w.params).In g → (∀ q ∈ news, q ∈ l) → FnAt f h)
    (hstep : ∀ i acc v T, its[i]? = some v → Inv i acc T → CallK w nd nu (.ref f) [acc, v] (fun l => ∀ q ∈ T ++ news, q ∈ l) (fun r fresh => Inv (i + 1) r (fresh ++ T)))
    (B : Below A₀ base outer h₀) (F : Fr h₀ L s.heap m) (X : (hd.heap_1 w.params).In h₀) (N : News h₀ L s.heap news) (mL : (DL, listOf its n) ∈ news) (mV : (V0, oV) ∈ news) (hV : oV.cls ≠ Value.type "tuple") (h0 : Inv 0 (.ref V0) []) (T : Top p loose mean mg mb h₀) (hk : cs.kind = .function) (hdp : dp + nd + 1 < recursionLimit) (hun : un + nu + 8 < cLine)
    (hret : ∀ r T h' tk', Fr h₀ L h' m → News h₀ L h' (T ++ news) → (∀ q ∈ news, ∀ q' ∈ T, @LT.lt Nat _ q.1 q'.1) → Inv its.size r T → Q r { s with heap := h', toks := tk' }) :
    wpAny (model PySem.Challenge.rw_mq0203_01.prog w) (ktrTop dp un gd cn cs L a ccd cl outer) (call (.ref 30) [.ref f, .ref DL, .ref V0]) Q E s := by
  refine wpAny_call ?_
  k_dflt (refine' code_def ?k1 ?k2 ?k3 ?k4 ?k5 ?kA ?kF ?kK ?k6 ?k7 ?k8 ?k9 ?kB ?_ ?c2 ?c3 ?c4 ?c5; (case kA => exact rfl); (case kF => exact rfl); (case kK => assumption); (case k1 => k_asm); (case k2 => k_asm); (case k3 => k_asm); (case k4 => k_asm); (case k5 => k_asm); (case k6 => k_is); (case k7 => k_is); (case k8 => ktr_room); (case k9 => exact BindsTo.of_defaults rfl (F.keep _ _ (X 23 _ (by rfl))) rfl rfl rfl); (case c5 => decide); (case kB => exact locs rfl); (case c2 => exact rfl); (case c3 => exact rfl); (case c4 => exact rfl); k_whole; intro g' L' h' FG' F' N' B' X' T'; (try dsimp only); (try k_lift B'); (try k_fold))
  k_steps
  rename_i I' h1 oI hi2 h2 F2 N2
  have l1 := lt7
  refine kto_is (N2 _ (List.mem_cons_of_mem _ mV)).1 (F2.keep _ _ (X' 22 _ (by rfl))) (fun e => ?_) hV ?_
  · have q := (N2 _ (List.mem_cons_of_mem _ mV)).2.2
    rw [show (V0, oV).1 = 22 from e, X' 22 _ (by rfl)] at q
    exact nomatch q
  k_steps
  rename_i h3 F3 N3
  have offI : ∀ p ∈ news, p.1 ≠ I' := fun p hp => Nat.ne_of_lt (l1 p hp)
  refine iter_it (by rfl) F3 N3 hi2 mL (Nat.zero_le _) offI (JR _ I' news Inv) ⟨_, [], rfl, h0, lt_nil, .inl rfl⟩ ?step ?zero
  case step =>
    rintro i v m₁ T' own h tk hv ⟨acc, T, rfl, hI, hlt, hm⟩ off ⟨oI2, hoI⟩ F4 N4
    have hc := hstep i acc v T hv hI
    rcases hm with rfl | ⟨e, rfl⟩
    all_goals
      k_steps
      rename_i h8 F8 N8
      refine LoopStepU.intro F8 (news₂ := (fr5 ++ T) ++ news) (N8.perm (red_perm)) (red_off lt5 hoI off) ⟨r5, fr5 ++ T, rfl, hr5, red_lt lt5 hlt, .inr ⟨v, ?_⟩⟩
      funext y; dsimp only; repeat' split
      all_goals first | rfl | contradiction
  case zero =>
    rintro m₁ T' h tk ⟨acc, T, rfl, hI, hlt, hm⟩ F4 N4
    dsimp only
    rcases hm with rfl | ⟨e, rfl⟩
    all_goals
      k_steps
      exact hret _ T _ _ (by k_asm) (by k_asm) hlt hI
end
end
end
section
theorem clear_Red2 : True := by k_with_none; trivial
open PySem PySem.Calls PySem.W PyProof.Rows PySem.Spec
set_option maxRecDepth 100000
set_option maxHeartbeats 8000000
theorem fill8 : True := by
  have h2 : (hd.heap_1 = hd.heap_1 ∧ PySem.Challenge.rw_mq0203_01 = PySem.Challenge.rw_mq0203_01) → True := fun _ => trivial
  apply h2
  k_fill
  exact ⟨rfl, rfl⟩
section
variable {prog : Program} {w : World} {A : Around} {E : Value → Shared → Prop} {s : Shared} {h₀ : Heap} {L ax I : Addr} {m : Str → Option Value} {news : List (Addr × Obj)} {its : Array Value} {n i : Nat} {io : Obj} {x : Value}
theorem lst_next {Q : Value → Shared → Prop} (F : Fr h₀ L s.heap m) (N : News h₀ L s.heap ((I, io) :: news)) (off : ∀ p ∈ news, p.1 ≠ I) (hi : LstIt io ax i) (hm : (ax, listOf its n) ∈ news) (hx : its[i]? = some x)
    (h : ∀ h' o', Fr h₀ L h' m → News h₀ L h' ((I, o') :: news) → LstIt o' ax (i + 1) → Q x { s with heap := h' }) :
    wpAny (model prog w) A (call (.builtin "next") [.ref I]) Q E s := by
  have hI := N _ List.mem_cons_self
  have ha := N _ (List.mem_cons_of_mem _ hm)
  have hit := hi.at hI.1
  have hk : ∀ h', h'.IsListIter I ax (i + 1) → Heap.SameBut I s.heap h' → Q x { s with heap := h' } := fun h' q hs => by
    obtain ⟨o', ho', hc, hd⟩ := q
    exact h h' o' (F.change hs hI.2.1 hI.2.2) ((show News h₀ L s.heap ([] ++ (I, io) :: news) from N).setIn (fun _ h => nomatch h) off hs ho') ⟨hc, hd⟩
  refine call_function_entry (by decide +kernel) (by decide +kernel) kdk_entry_next (kdk_args_next _) ?_
  unfold Builtin.«next»
  refine wpAny_bind (m := someArgs "next" 1 2 _) (wpAny_of_eq (a := [Value.ref I]) (by first | rfl | kernel_rfl!) ?_)
  dsimp only
  refine wpAny_bind (wpAny_specialOf (name := Str.ofString "__next__") hit.typeIs slot_listiter_next.lookup ?_)
  refine wpAny_ite_split (fun hab => absurd hab (by decide)) (fun _ => ?_)
  refine wpAny_bind (wpAny_callSpecial?_slot (name := Str.ofString "__next__") hit.typeIs slot_listiter_next
    (wpAny_call_entry slot_listiter_next hit.typeIs entry_listiter_next ?_ (args_listiter_next _)))
  show wpAny _ _ (field (.ref I) 0 >>= _) _ _ s
  refine wpAny_bind (wpAny_field hI.1 hi.2 (x := .ref ax) rfl ?_)
  show wpAny _ _ (if (Value.ref ax == Value.none) = true then _ else _) _ _ s
  rw [if_neg (show ¬ ((Value.ref ax == Value.none) = true) from Bool.false_ne_true)]
  show wpAny _ _ (field (.ref I) 1 >>= _) _ _ s
  refine wpAny_bind (wpAny_field hI.1 hi.2 (x := .int i 0) rfl ?_)
  show wpAny _ _ (seqItems? (.ref ax) >>= _) _ _ s
  refine wpAny_bind (wpAny_seqItems ha.1 rfl ?_)
  simp only [Int.toNat_natCast, hx]
  refine wpAny_bind (wpAny_setField hI.1 hi.2 (by simp) (wpAny_pure ⟨x, rfl, ?_⟩))
  refine wpAny_pure ⟨_, rfl, hk _ ?_ (Heap.SameBut.update ..)⟩
  exact ⟨_, Heap.get?_update_self _ hI.1 (Obj.isFreed_of_fields (Obj.data_mapFields hi.2 _)), (Obj.cls_mapFields ..).trans hi.1, by
    rw [Obj.data_mapFields hi.2]; simp [rawInt]⟩
end
set_option pp.deepTerms false
set_option pp.deepTerms.threshold 5
section
variable {w : World} {p : Program} {loose : List Str} {mean : ExcName → Option Value} {mg mb : Str → Option Value} {dp un : Nat} {gd : Option (List Code)} {cn : Str} {cs : Scope} {a : Addr} {ccd : Value} {cl : List (Str × Addr)} {outer : List Env} {A₀ : Around} {base h₀ : Heap} {L : Addr} {m : Str → Option Value} {news : List (Addr × Obj)} {s : Shared} {Q E : Value → Shared → Prop}
section
theorem lyne_Red2_1 : True := by
  k_with "k_dflt_done!" => first | with_reducible assumption | with_reducible exact List.mem_cons_self | (with_reducible refine List.mem_cons_of_mem _ ?_; k_dflt done)
  trivial
theorem line_Red2_1 : True := by
  k_with "pyIter ref!" => (refine stop_mark ?_)
  trivial
theorem line_Red2_2 : True := by
  k_with "call builtin:iter!" => (k_here; (with_reducible show wpAny _ _ (call (Value.builtin "iter") [Value.ref _]) _ _ _); k_dflt (refine' lst_iter ?F ?N ?m ?_; (case F => k_asm); (case N => k_asm); (case m => k_dflt done)); intro _ _ _ _ _ lt7 _; (try k_lt lt7))
  trivial
theorem line_Red2_3 : True := by
  k_with "exec For Name Name cons nil!" => (k_here; (with_unfolding_all refine' For_invVF ?kF ?k1 ?k2 ?_; (case kF => k_asm); (case k1 => exact rfl); (case k2 => exact rfl); k_whole))
  trivial
theorem line_Red2_4 : True := by
  k_with "call ref!" => (k_here; k_dflt (refine' hc ?B ?F ?X ?N ?T ?hk ?hd ?hu ?P ?_; (case B => k_asm); (case F => k_asm); (case X => k_asm); (case N => k_asm); (case T => k_asm); (case hk => rfl); (case hd => first | ktr_room | (simp only [ktrTop]; omega)); (case hu => first | ktr_units | omega); (case P => exact fun q hq => List.mem_append_right _ hq)); intro r5 fr5 h5 tk5 F5 N5 lt5 hr5)
  trivial
theorem line_Red2_5 : True := by
  k_with "callWith ref!" => (k_here; k_dflt (refine' callWith_F ?k1 ?_; (case k1 => exact hfn (by k_asm) (by k_asm) (by k_asm) (fun q hq => List.mem_append_right _ (List.mem_append_right _ hq))); k_whole))
  trivial
theorem line_Red2_6 : True := by
  k_with "And!" => (refine ⟨hfn (by k_asm) (by k_asm) (by k_asm) (fun q hq => List.mem_append_right _ (List.mem_append_right _ hq)), ?_⟩; try dsimp only [List.nil_append, List.cons_append])
  trivial
theorem c_reduce2 {f : Addr} {DL : Addr} {its : Array Value} {n nd nu : Nat} {x0 : Value} (Inv : Nat → Value → List (Addr × Obj) → Prop)
    (hfn : ∀ {g h : Heap} {L : Addr} {m : Str → Option Value} {l : List (Addr × Obj)}, News g L h l → Fr g L h m → (hd.heap_1 w.params).In g → (∀ q ∈ news, q ∈ l) → FnAt f h)
    (hstep : ∀ i acc v T, its[i]? = some v → Inv i acc T → CallK w nd nu (.ref f) [acc, v] (fun l => ∀ q ∈ T ++ news, q ∈ l) (fun r fresh => Inv (i + 1) r (fresh ++ T)))
    (B : Below A₀ base outer h₀) (F : Fr h₀ L s.heap m) (X : (hd.heap_1 w.params).In h₀) (N : News h₀ L s.heap news) (mL : (DL, listOf its n) ∈ news) (hx0 : its[0]? = some x0) (h0 : Inv 1 x0 []) (T : Top p loose mean mg mb h₀) (hk : cs.kind = .function) (hdp : dp + nd + 1 < recursionLimit) (hun : un + nu + 8 < cLine)
    (hret : ∀ r T h' tk', Fr h₀ L h' m → News h₀ L h' (T ++ news) → (∀ q ∈ news, ∀ q' ∈ T, @LT.lt Nat _ q.1 q'.1) → Inv its.size r T → Q r { s with heap := h', toks := tk' }) :
    wpAny (model PySem.Challenge.rw_mq0203_01.prog w) (ktrTop dp un gd cn cs L a ccd cl outer) (call (.ref 30) [.ref f, .ref DL]) Q E s := by
  refine wpAny_call ?_
  k_dflt (refine' code_def ?k1 ?k2 ?k3 ?k4 ?k5 ?kA ?kF ?kK ?k6 ?k7 ?k8 ?k9 ?kB ?_ ?c2 ?c3 ?c4 ?c5; (case kA => exact rfl); (case kF => exact rfl); (case kK => assumption); (case k1 => k_asm); (case k2 => k_asm); (case k3 => k_asm); (case k4 => k_asm); (case k5 => k_asm); (case k6 => k_is); (case k7 => k_is); (case k8 => ktr_room); (case k9 => exact BindsTo.of_defaults rfl (F.keep _ _ (X 23 _ (by rfl))) rfl rfl rfl); (case c5 => decide); (case kB => exact locs rfl); (case c2 => exact rfl); (case c3 => exact rfl); (case c4 => exact rfl); k_whole; intro g' L' h' FG' F' N' B' X' T'; (try dsimp only); (try k_lift B'); (try k_fold))
  k_steps
  rename_i I' h1 oI hi2 h2 F2 N2
  have l1 := lt7
  have offI : ∀ p ∈ news, p.1 ≠ I' := fun p hp => Nat.ne_of_lt (l1 p hp)
  have h1le : 1 ≤ its.size := by
    rcases Nat.lt_or_ge 0 its.size with q | q
    · exact q
    · rw [Array.getElem?_eq_none (by omega)] at hx0; exact nomatch hx0
  refine lst_next F2 N2 offI hi2 mL hx0 (fun h9 oI3 F9 N9 hi3 => ?_)
  clear F2 N2 hi2
  k_steps
  rename_i h3 F3 N3
  refine iter_it (by rfl) F3 N3 hi3 mL h1le offI (JR _ I' news Inv) ⟨_, [], rfl, h0, lt_nil, .inl rfl⟩ ?step ?zero
  case step =>
    rintro i v m₁ T' own h tk hv ⟨acc, T, rfl, hI, hlt, hm⟩ off ⟨oI2, hoI⟩ F4 N4
    have hc := hstep i acc v T hv hI
    rcases hm with rfl | ⟨e, rfl⟩
    all_goals
      k_steps
      rename_i h8 F8 N8
      refine LoopStepU.intro F8 (news₂ := (fr5 ++ T) ++ news) (N8.perm (red_perm)) (red_off lt5 hoI off) ⟨r5, fr5 ++ T, rfl, hr5, red_lt lt5 hlt, .inr ⟨v, ?_⟩⟩
      funext y; dsimp only; repeat' split
      all_goals first | rfl | contradiction
  case zero =>
    rintro m₁ T' h tk ⟨acc, T, rfl, hI, hlt, hm⟩ F4 N4
    dsimp only
    rcases hm with rfl | ⟨e, rfl⟩
    all_goals
      k_steps
      exact hret _ T _ _ (by k_asm) (by k_asm) hlt hI
end
end
end
section
theorem clear_Trk1 : True := by k_with_none; trivial
open PySem PySem.Calls PySem.W PyProof.Rows PySem.Spec
set_option maxRecDepth 100000
set_option maxHeartbeats 8000000
theorem fill9 : True := by
  have h2 : (hd.heap_1 = hd.heap_1 ∧ PySem.Challenge.rw_mq0203_01 = PySem.Challenge.rw_mq0203_01) → True := fun _ => trivial
  apply h2
  k_fill
  exact ⟨rfl, rfl⟩
structure Cd where
  a : Addr
  t : Tri
  u : Tok
  v : Tok
  w : Tok
  pu : @LT.lt Nat _ 0 u
  pv : @LT.lt Nat _ 0 v
  pw : @LT.lt Nat _ 0 w
noncomputable abbrev Cd.o (c : Cd) : Addr × Obj := (c.a, tup3 (.float (colF 0 c.t.h c.t.s c.t.l) c.u) (.float (colF 16 c.t.h c.t.s c.t.l) c.v) (.float (colF 32 c.t.h c.t.s c.t.l) c.w))
structure St (j : Nat) (t : Tri) : Prop where
  v : Valid t.h t.s t.l
  s : t.s % 2 ^ j = 0
  l : t.l % 2 ^ j = 0
theorem St.next {j : Nat} {t : Tri} {kd am : Int} (h : St (j + 1) t) (hj : j ≤ 8) (d : OkDeed kd am) : St j (rk kd am t) :=
  ⟨rk_valid h.v d, (rk_even d hj h.s h.l).1, (rk_even d hj h.s h.l).2⟩
theorem s89 {i n : Nat} (hi : i < n) (hn : n ≤ 9) : 8 - i + 1 = 9 - i := (Nat.sub_add_comm (n := 8) (m := 1) (k := i) (Nat.le_of_lt_succ (Nat.lt_of_lt_of_le hi hn))).symm
theorem s98 {i : Nat} : 9 - (i + 1) = 8 - i := Nat.add_sub_add_right 8 1 i
theorem even_of {j : Nat} {x : Int} (h : x % 2 ^ (j + 1) = 0) : x % 2 = 0 := by
  have q : (2 : Int) ∣ 2 ^ (j + 1) := ⟨2 ^ j, by rw [Int.pow_succ, Int.mul_comm]⟩
  exact Int.emod_eq_zero_of_dvd (Int.dvd_trans q (Int.dvd_of_emod_eq_zero h))
theorem k_done {w : World} {j : Nat} {c : Cd} {d : Dd} (h : St (j + 1) c.t) (hd : OkDeed d.k d.m) :
    CallK w 2 16 (.ref 70) [.ref c.a, .ref d.a] (fun l => c.o ∈ l ∧ d.o ∈ l) (fun r fresh => ∃ c' : Cd, r = .ref c'.a ∧ fresh = [c'.o] ∧ c'.t = rk d.k d.m c.t) := by
  intro p loose mean mg mb dp un gd cn cs a ccd cl outer A₀ base h₀ L m news s Q E B F X N T hk hdp hun P hret
  refine c_done0 (news := news) (t1 := c.u) (t2 := c.v) (t3 := c.w) (t4 := d.u) (t5 := d.w) B F X (N.perm ?_) T hk c.pu c.pv c.pw hdp hun h.v hd (even_of h.s) (even_of h.l) ?_
  · intro q hq
    rcases List.mem_cons.mp hq with rfl | hq
    · exact P.1
    · rcases List.mem_cons.mp hq with rfl | hq
      · exact P.2
      · exact hq
  · intro r g b D t1 t2 t3 h' tk' news' er eg eb F' N' hm hs al p1 p2 p3
    subst er eg eb
    refine hret _ [(⟨D, rk d.k d.m c.t, t1, t2, t3, p1, p2, p3⟩ : Cd).o] h' tk' F' (N'.perm ?_) ?_ ⟨⟨D, rk d.k d.m c.t, t1, t2, t3, p1, p2, p3⟩, rfl, rfl, rfl⟩
    · intro q hq
      rcases List.mem_cons.mp hq with rfl | hq
      · exact hm
      · exact hs q hq
    · intro q hq q' hq'
      rw [List.mem_singleton.mp hq']
      exact lt_all al q hq
set_option pp.deepTerms false
set_option pp.deepTerms.threshold 5
section
variable {w : World} {p : Program} {loose : List Str} {mean : ExcName → Option Value} {mg mb : Str → Option Value} {dp un : Nat} {gd : Option (List Code)} {cn : Str} {cs : Scope} {a : Addr} {ccd : Value} {cl : List (Str × Addr)} {outer : List Env} {A₀ : Around} {base h₀ : Heap} {L : Addr} {m : Str → Option Value} {news : List (Addr × Obj)} {s : Shared} {Q E : Value → Shared → Prop}
theorem lyne_Trk1_1 : True := by
  k_with "k_all!" => with_reducible assumption
  trivial
theorem lyne_Trk1_2 : True := by
  k_with "k_dflt_done!" => first | with_reducible assumption | with_reducible exact List.mem_cons_self | (with_reducible refine List.mem_cons_of_mem _ ?_; k_dflt done)
  trivial
theorem line_Trk1_1 : True := by
  k_with "subscriptTail!" => (k_here; k_dflt (refine' sub_last ?N ?m ?x ?_ ?s; (case N => k_asm); (case m => k_dflt done); (case x => assumption); (case s => with_unfolding_all rfl)))
  trivial
theorem line_Trk1_2 : True := by
  k_with "binaryOp Add ref ref!" => (k_here; (with_reducible show wpAny _ _ (binaryOp _ (Value.ref _) (Value.ref _)) _ _ _); k_dflt (refine' kmk_add_lit ?F ?N ?a ?b ?e ?_ ?z; (case F => k_asm); (case N => k_asm); (case a => exact lst_of (by k_asm) (by k_dflt done)); (case b => exact lst_of (by k_asm) (by k_dflt done)); (case e => exact rfl); (case z => exact hz)); intro D9 h9 F9 N9 l9)
  trivial
theorem line_Trk1_3 : True := by
  k_with "call ref!" => (k_here; (show wpAny _ _ (call (Value.ref 70) _) _ _ _); k_dflt (refine' kd ?B ?F ?X ?N ?T ?hk ?hd ?hu ?P ?_; (case B => k_asm); (case F => k_asm); (case X => k_asm); (case N => k_asm); (case T => k_asm); (case hk => rfl); (case hd => ktr_room); (case hu => ktr_units); (case P => exact ⟨by k_dflt done, by k_dflt done⟩)); rintro r5 fr5 h5 tk5 F5 N5 lt5 ⟨c5, rfl, rfl, et5⟩; (try simp only [List.cons_append, List.nil_append] at N5))
  trivial
theorem lst_of {h₀ h : Heap} {L a : Addr} {its : Array Value} {n : Nat} {news : List (Addr × Obj)} (N : News h₀ L h news) (hm : (a, listOf its n) ∈ news) : h.IsList a its := ⟨_, (N _ hm).1, rfl, n, rfl⟩
theorem trk_arr {Cs : List Cd} {x c : Cd} : (((Cs ++ [x] ++ [c]).map fun c => Value.ref c.a).toArray) = ((((Cs ++ [x]).map fun c => Value.ref c.a).toArray.toList ++ (#[Value.ref c.a] : Array Value).toList).toArray) := by
  rw [List.map_append (l₂ := [c])]; rfl
theorem trk_drop {ds : List Dd} {i : Nat} {d : Dd} (hi : i < ds.length) (hd : ds[i]? = some d) : ds.drop i = d :: ds.drop (i + 1) := by
  rw [List.drop_eq_getElem_cons hi]
  congr 1
  rw [List.getElem?_eq_getElem hi] at hd
  exact Option.some.inj hd
noncomputable abbrev trkTab (c' : Addr) : Obj := tabObj (#[] ++ #[rawInt 150, rawInt 18, .ref c'])
noncomputable abbrev trkQ : Str := (Str.ofString "_law_track" ++ (".<locals>." : Str)) ++ Str.ofString "<lambda>"
theorem trk_lt {T news : List (Addr × Obj)} {l' f' c' : Addr} {o1 o2 o3 o4 : Obj} (lt : ∀ q ∈ (l', o1) :: (f', o2) :: (c', o3) :: (93, o4) :: news, ∀ q' ∈ T, @LT.lt Nat _ q.1 q'.1) (h1 : AllLt c' news) (h2 : @LT.lt Nat _ c' f') (h3 : AllLt l' news) : ∀ q ∈ news, ∀ q' ∈ T ++ [(l', o1), (f', o2), (c', o3)], @LT.lt Nat _ q.1 q'.1 := fun q hq q' hq' => by
  rcases List.mem_append.mp hq' with h | h
  · exact lt q (List.mem_cons_of_mem _ (List.mem_cons_of_mem _ (List.mem_cons_of_mem _ (List.mem_cons_of_mem _ hq)))) q' h
  · rcases List.mem_cons.mp h with rfl | h
    · exact lt_all h3 q hq
    · rcases List.mem_cons.mp h with rfl | h
      · exact Nat.lt_trans (lt_all h1 q hq) h2
      · rw [List.mem_singleton.mp h]; exact lt_all h1 q hq
theorem app3 {α : Type} (T : List α) (a b c : α) (X : List α) : T ++ a :: b :: c :: X = (T ++ [a, b, c]) ++ X := by rw [List.append_assoc]; rfl
theorem news_eq {h₀ h : Heap} {L : Addr} {l : List (Addr × Obj)} (N : News h₀ L h l) : ∃ l', l' = l ∧ News h₀ L h l' := ⟨l, rfl, N⟩
noncomputable def TrkInv (C0 : Cd) (ds : List Dd) (news : List (Addr × Obj)) (i : Nat) (acc : Value) (T : List (Addr × Obj)) : Prop :=
  ∃ (P : Addr) (n : Nat) (Cs : List Cd) (x : Cd), acc = .ref P ∧ (P, listOf ((Cs ++ [x]).map fun c => Value.ref c.a).toArray n) ∈ T ++ news ∧ (∀ c ∈ Cs ++ [x], c.o ∈ T ++ news) ∧ Cs.map (·.t) ++ run x.t (ds.drop i) = run C0.t ds ∧ St (9 - i) x.t ∧ (Cs ++ [x]).length = i + 1
theorem c_track {C0 : Cd} {DL : Addr} {n : Nat} {ds : List Dd} (codeHd : CodeHd base 97 93) (off : ∀ p ∈ news, p.1 ≠ 93)
    (B : Below A₀ base outer h₀) (F : Fr h₀ L s.heap m) (X : (hd.heap_1 w.params).In h₀) (N : News h₀ L s.heap ((93, tabObj #[]) :: news)) (mL : (DL, listOf (ds.map fun d => Value.ref d.a).toArray n) ∈ news) (mC : C0.o ∈ news) (mD : ∀ d ∈ ds, d.o ∈ news) (hok : ∀ d ∈ ds, OkDeed d.k d.m) (hst : St 9 C0.t) (hl : ds.length ≤ 9) (T : Top p loose mean mg mb h₀) (hk : cs.kind = .function) (hdp : dp + 5 < recursionLimit) (hun : un + 64 < cLine)
    (hret : ∀ (R c' : Addr) (oc' : Obj) (vs' : Array Value) (t' : Tok) (S : List Cd) (n' : Nat) (fresh : List (Addr × Obj)) (h' : Heap) (tk' : Nat), Fr h₀ L h' m → News h₀ L h' (fresh ++ (93, trkTab c') :: news) → (c', oc') ∈ fresh → oc'.data = .fields vs' → vs'[1]? = some (.str trkQ t') → (R, listOf (S.map fun c => Value.ref c.a).toArray n') ∈ fresh ++ (93, trkTab c') :: news → (∀ c ∈ S, c.o ∈ fresh ++ (93, trkTab c') :: news) → S.map (·.t) = run C0.t ds → (∀ q ∈ news, ∀ q' ∈ fresh, @LT.lt Nat _ q.1 q'.1) → Q (.ref R) { s with heap := h', toks := tk' }) :
    wpAny (model PySem.Challenge.rw_mq0203_01.prog w) (ktrTop dp un gd cn cs L a ccd cl outer) (call (.ref 98) [.ref C0.a, .ref DL]) Q E s := by
  refine wpAny_call ?_
  k_dflt cell_enter
  k_steps
  rename_i f' c' oc' vs' tt ct h1 tk1 d1 d2 l1 l2 l' h2 F2 N2 l3
  obtain ⟨l5, e5, N5⟩ := news_eq N2
  refine' c_reduce3 (nd := 3) (nu := 24) (TrkInv C0 ds l5) ?hfn ?hstep ?B F2 ?X N5 ?mL (e5 ▸ List.mem_cons_self) ?hV ?h0 ?T ?hk ?hd ?hu ?hret
  case B => k_asm
  case X => k_asm
  case T => k_asm
  case hk => rfl
  case hd => ktr_room
  case hu => ktr_units
  case mL => subst e5; exact List.mem_cons_of_mem _ (List.mem_cons_of_mem _ (List.mem_cons_of_mem _ (List.mem_cons_of_mem _ mL)))
  case hV => exact fun e => absurd (Value.type.inj e) (by decide)
  case h0 =>
    subst e5
    refine ⟨_, _, [], C0, rfl, List.mem_cons_self, fun c hc => ?_, rfl, hst, rfl⟩
    cases List.mem_singleton.mp hc
    exact List.mem_cons_of_mem _ (List.mem_cons_of_mem _ (List.mem_cons_of_mem _ (List.mem_cons_of_mem _ mC)))
  case hfn =>
    subst e5
    intro g h L m l N F X hs
    exact FnAt.of N (hs _ (List.mem_cons_of_mem _ List.mem_cons_self))
  case hstep =>
    subst e5
    rintro i acc v T hv ⟨P, n2, Cs, x, rfl, hP, hCs, hrun, hx, hlen⟩
    intro p loose mean mg mb dp un gd cn cs a ccd cl outer A₀ base h₀ L m l s Q E B F X N T' hk hdp hun hs hret
    have hi : i < ds.length := by
      rcases Nat.lt_or_ge i ds.length with q | q
      · exact q
      · rw [Array.getElem?_eq_none (by simpa using q)] at hv; exact nomatch hv
    obtain ⟨d, hd⟩ : ∃ d, ds[i]? = some d := ⟨_, List.getElem?_eq_getElem hi⟩
    have hvd : v = .ref d.a := by
      rw [List.getElem?_toArray, List.getElem?_map, hd] at hv
      exact (Option.some.inj hv).symm
    subst hvd
    have hdm : d ∈ ds := List.mem_of_getElem? hd
    have mf := hs _ (List.mem_append_right T (List.mem_cons_of_mem _ List.mem_cons_self))
    have mc := hs _ (List.mem_append_right T (List.mem_cons_of_mem _ (List.mem_cons_of_mem _ List.mem_cons_self)))
    have mp := hs _ hP
    have mx := hs _ (hCs x (List.mem_append_right _ List.mem_cons_self))
    have md := hs _ (List.mem_append_right T (List.mem_cons_of_mem _ (List.mem_cons_of_mem _ (List.mem_cons_of_mem _ (List.mem_cons_of_mem _ (mD d hdm))))))
    have kd := k_done (w := w) (j := 8 - i) (c := x) (d := d) (by rw [s89 hi hl]; exact hx) (hok d hdm)
    have hx1 : ((Cs ++ [x]).map fun c => Value.ref c.a).toArray[((Cs ++ [x]).map fun c => Value.ref c.a).toArray.size - 1]? = some (Value.ref x.a) := by simp
    have hz : ((Cs ++ [x]).map fun c => Value.ref c.a).toArray.toList.length + 1 ≤ sizeLine := by
      simp only [List.length_map, sizeLine_eq]; omega
    have N := N.perm (news' := (P, _) :: (f', _) :: (c', _) :: l) (fun q hq => by
      rcases List.mem_cons.mp hq with rfl | hq
      · exact mp
      · rcases List.mem_cons.mp hq with rfl | hq
        · exact mf
        · rcases List.mem_cons.mp hq with rfl | hq
          · exact mc
          · exact hq)
    generalize hI2 : ((Cs ++ [x]).map fun c => Value.ref c.a).toArray = its at N hx1 hz
    refine wpAny_call ?_
    (refine' kla_code ?k1 ?k2 ?k3 ?k4 ?k5 ?kA ?kF ?kK ?k6 ?k7 ?k8 ?k9 ?kB ?_ ?c2 ?c3 ?c4 ?c5; (case kA => exact rfl); (case kF => exact rfl); (case kK => assumption); (case k1 => k_asm); (case k2 => k_asm); (case k3 => k_asm); (case k4 => k_asm); (case k5 => k_asm); (case k6 => k_mem); (case k7 => exact codeRec_news (by k_asm) (by k_mem) (by assumption) (by assumption)); (case k8 => ktr_room); (case k9 => exact rfl); (case c5 => decide); (case kB => exact locs rfl); (case c2 => exact rfl); (case c3 => exact rfl); (case c4 => exact rfl); k_whole; intro g' L' h' FG' F' N' B' X' T'; (try dsimp only); (try k_lift B'); (try k_fold))
    k_steps
    subst hI2
    rename_i l6 h6 F6 N6 l7 kF kN Tc kX
    refine hret (.ref D9) [(D9, listOf ((Cs ++ [x] ++ [c5]).map fun c => Value.ref c.a).toArray 0), c5.o] _ _ (by k_asm) (News.perm (by k_asm) ?_) ?_ ⟨D9, 0, Cs ++ [x], c5, rfl, List.mem_cons_self, ?_, ?_, ?_, ?_⟩
    · intro q hq
      rcases List.mem_cons.mp hq with rfl | hq
      · rw [trk_arr]; exact List.mem_cons_self
      · rcases List.mem_cons.mp hq with rfl | hq
        · exact List.mem_cons_of_mem _ (List.mem_cons_of_mem _ List.mem_cons_self)
        · exact List.mem_cons_of_mem _ (List.mem_cons_of_mem _ (List.mem_cons_of_mem _ (List.mem_cons_of_mem _ (List.mem_cons_of_mem _ (List.mem_cons_of_mem _ hq)))))
    · intro q hq q' hq'
      rcases List.mem_cons.mp hq' with rfl | hq'
      · exact l9 q (List.mem_cons_of_mem _ (List.mem_cons_of_mem _ (List.mem_cons_of_mem _ (List.mem_cons_of_mem _ (List.mem_cons_of_mem _ hq)))))
      · exact lt5 q (List.mem_cons_of_mem _ (List.mem_cons_of_mem _ (List.mem_cons_of_mem _ hq))) q' hq'
    · intro c hc
      rw [List.append_assoc]
      rcases List.mem_append.mp hc with hc | hc
      · exact List.mem_append_right _ (hCs c hc)
      · rw [List.mem_singleton.mp hc]; exact List.mem_cons_of_mem _ List.mem_cons_self
    · rw [← hrun, trk_drop hi hd, List.map_append, List.append_assoc, et5]; rfl
    · rw [et5, s98]
      exact St.next (by rw [s89 hi hl]; exact hx) (Nat.sub_le ..) (hok d hdm)
    · rw [List.length_append, hlen]; rfl
  case hret =>
    subst e5
    rintro r T h7 tk7 F7 N7 lt7 ⟨P, n2, Cs, x, rfl, hP, hCs, hrun, hx, hlen⟩
    clear N5 N2 F2
    dsimp only
    k_steps
    rename_i kF kN Tc kX
    dsimp only at kN
    rw [app3] at kN hP
    have hl8 : (ds.map fun d => Value.ref d.a).toArray.size = ds.length := by simp
    rw [hl8, List.drop_length] at hrun
    refine hret P c' oc' vs' tt (Cs ++ [x]) n2 _ _ _ (by k_asm) kN ?_ d1 d2 hP (fun c hc => by have q := hCs c hc; rw [app3] at q; exact q) (by rw [List.map_append]; exact hrun) (trk_lt lt7 l1.2 l2 l3.2.2.2)
    exact List.mem_append_right _ (List.mem_cons_of_mem _ (List.mem_cons_of_mem _ List.mem_cons_self))
end
end
section
theorem clear_Trk2 : True := by k_with_none; trivial
open PySem PySem.Calls PySem.W PyProof.Rows PySem.Spec
set_option maxRecDepth 100000
set_option maxHeartbeats 8000000
theorem fill10 : True := by
  have h2 : (hd.heap_1 = hd.heap_1 ∧ PySem.Challenge.rw_mq0203_01 = PySem.Challenge.rw_mq0203_01) → True := fun _ => trivial
  apply h2
  k_fill
  exact ⟨rfl, rfl⟩
theorem trk_lt2 {T news : List (Addr × Obj)} {l' f' : Addr} {o1 o2 o4 : Obj} (lt : ∀ q ∈ (l', o1) :: (f', o2) :: (93, o4) :: news, ∀ q' ∈ T, @LT.lt Nat _ q.1 q'.1) (h1 : AllLt f' news) (h3 : AllLt l' news) : ∀ q ∈ news, ∀ q' ∈ T ++ [(l', o1), (f', o2)], @LT.lt Nat _ q.1 q'.1 := fun q hq q' hq' => by
  rcases List.mem_append.mp hq' with h | h
  · exact lt q (List.mem_cons_of_mem _ (List.mem_cons_of_mem _ (List.mem_cons_of_mem _ hq))) q' h
  · rcases List.mem_cons.mp h with rfl | h
    · exact lt_all h3 q hq
    · rw [List.mem_singleton.mp h]; exact lt_all h1 q hq
theorem app2 {α : Type} (T : List α) (a b : α) (X : List α) : T ++ a :: b :: X = (T ++ [a, b]) ++ X := by rw [List.append_assoc]; rfl
set_option pp.deepTerms false
set_option pp.deepTerms.threshold 5
section
variable {w : World} {p : Program} {loose : List Str} {mean : ExcName → Option Value} {mg mb : Str → Option Value} {dp un : Nat} {gd : Option (List Code)} {cn : Str} {cs : Scope} {a : Addr} {ccd : Value} {cl : List (Str × Addr)} {outer : List Env} {A₀ : Around} {base h₀ : Heap} {L : Addr} {m : Str → Option Value} {news : List (Addr × Obj)} {s : Shared} {Q E : Value → Shared → Prop}
theorem lyne_Trk2_1 : True := by
  k_with "k_all!" => with_reducible assumption
  trivial
theorem lyne_Trk2_2 : True := by
  k_with "k_dflt_done!" => first | with_reducible assumption | with_reducible exact List.mem_cons_self | (with_reducible refine List.mem_cons_of_mem _ ?_; k_dflt done)
  trivial
theorem line_Trk2_1 : True := by
  k_with "subscriptTail!" => (k_here; k_dflt (refine' sub_last ?N ?m ?x ?_ ?s; (case N => k_asm); (case m => k_dflt done); (case x => assumption); (case s => with_unfolding_all rfl)))
  trivial
theorem line_Trk2_2 : True := by
  k_with "binaryOp Add ref ref!" => (k_here; (with_reducible show wpAny _ _ (binaryOp _ (Value.ref _) (Value.ref _)) _ _ _); k_dflt (refine' kmk_add_lit ?F ?N ?a ?b ?e ?_ ?z; (case F => k_asm); (case N => k_asm); (case a => exact lst_of (by k_asm) (by k_dflt done)); (case b => exact lst_of (by k_asm) (by k_dflt done)); (case e => exact rfl); (case z => exact hz)); intro D9 h9 F9 N9 l9)
  trivial
theorem line_Trk2_3 : True := by
  k_with "call ref!" => (k_here; (show wpAny _ _ (call (Value.ref 70) _) _ _ _); k_dflt (refine' kd ?B ?F ?X ?N ?T ?hk ?hd ?hu ?P ?_; (case B => k_asm); (case F => k_asm); (case X => k_asm); (case N => k_asm); (case T => k_asm); (case hk => rfl); (case hd => ktr_room); (case hu => ktr_units); (case P => exact ⟨by k_dflt done, by k_dflt done⟩)); rintro r5 fr5 h5 tk5 F5 N5 lt5 ⟨c5, rfl, rfl, et5⟩; (try simp only [List.cons_append, List.nil_append] at N5))
  trivial
theorem c_track2 {C0 : Cd} {DL : Addr} {n : Nat} {ds : List Dd} {c' : Addr} {oc' : Obj} {vs' : Array Value} {tt : Tok} (mc0 : (c', oc') ∈ news) (d1 : oc'.data = Data.fields vs') (d2 : vs'[1]? = some (.str trkQ tt)) (codeHd : CodeHd base 97 93) (off : ∀ p ∈ news, p.1 ≠ 93)
    (B : Below A₀ base outer h₀) (F : Fr h₀ L s.heap m) (X : (hd.heap_1 w.params).In h₀) (N : News h₀ L s.heap ((93, trkTab c') :: news)) (mL : (DL, listOf (ds.map fun d => Value.ref d.a).toArray n) ∈ news) (mC : C0.o ∈ news) (mD : ∀ d ∈ ds, d.o ∈ news) (hok : ∀ d ∈ ds, OkDeed d.k d.m) (hst : St 9 C0.t) (hl : ds.length ≤ 9) (T : Top p loose mean mg mb h₀) (hk : cs.kind = .function) (hdp : dp + 5 < recursionLimit) (hun : un + 64 < cLine)
    (hret : ∀ (R : Addr) (S : List Cd) (n' : Nat) (fresh : List (Addr × Obj)) (h' : Heap) (tk' : Nat), Fr h₀ L h' m → News h₀ L h' (fresh ++ (93, trkTab c') :: news) → (R, listOf (S.map fun c => Value.ref c.a).toArray n') ∈ fresh ++ (93, trkTab c') :: news → (∀ c ∈ S, c.o ∈ fresh ++ (93, trkTab c') :: news) → S.map (·.t) = run C0.t ds → (∀ q ∈ news, ∀ q' ∈ fresh, @LT.lt Nat _ q.1 q'.1) → Q (.ref R) { s with heap := h', toks := tk' }) :
    wpAny (model PySem.Challenge.rw_mq0203_01.prog w) (ktrTop dp un gd cn cs L a ccd cl outer) (call (.ref 98) [.ref C0.a, .ref DL]) Q E s := by
  refine wpAny_call ?_
  k_dflt cell_enter
  k_steps
  rename_i f' ct h1 tk1 l1 l' h2 F2 N2 l3
  obtain ⟨l5, e5, N5⟩ := news_eq N2
  refine' c_reduce3 (nd := 3) (nu := 24) (TrkInv C0 ds l5) ?hfn ?hstep ?B F2 ?X N5 ?mL (e5 ▸ List.mem_cons_self) ?hV ?h0 ?T ?hk ?hd ?hu ?hret
  case B => k_asm
  case X => k_asm
  case T => k_asm
  case hk => rfl
  case hd => ktr_room
  case hu => ktr_units
  case mL => subst e5; exact List.mem_cons_of_mem _ (List.mem_cons_of_mem _ (List.mem_cons_of_mem _ mL))
  case hV => exact fun e => absurd (Value.type.inj e) (by decide)
  case h0 =>
    subst e5
    refine ⟨_, _, [], C0, rfl, List.mem_cons_self, fun c hc => ?_, rfl, hst, rfl⟩
    cases List.mem_singleton.mp hc
    exact List.mem_cons_of_mem _ (List.mem_cons_of_mem _ (List.mem_cons_of_mem _ mC))
  case hfn =>
    subst e5
    intro g h L m l N F X hs
    exact FnAt.of N (hs _ (List.mem_cons_of_mem _ List.mem_cons_self))
  case hstep =>
    subst e5
    rintro i acc v T hv ⟨P, n2, Cs, x, rfl, hP, hCs, hrun, hx, hlen⟩
    intro p loose mean mg mb dp un gd cn cs a ccd cl outer A₀ base h₀ L m l s Q E B F X N T' hk hdp hun hs hret
    have hi : i < ds.length := by
      rcases Nat.lt_or_ge i ds.length with q | q
      · exact q
      · rw [Array.getElem?_eq_none (by simpa using q)] at hv; exact nomatch hv
    obtain ⟨d, hd⟩ : ∃ d, ds[i]? = some d := ⟨_, List.getElem?_eq_getElem hi⟩
    have hvd : v = .ref d.a := by
      rw [List.getElem?_toArray, List.getElem?_map, hd] at hv
      exact (Option.some.inj hv).symm
    subst hvd
    have hdm : d ∈ ds := List.mem_of_getElem? hd
    have mf := hs _ (List.mem_append_right T (List.mem_cons_of_mem _ List.mem_cons_self))
    have mc := hs _ (List.mem_append_right T (List.mem_cons_of_mem _ (List.mem_cons_of_mem _ (List.mem_cons_of_mem _ mc0))))
    have mp := hs _ hP
    have mx := hs _ (hCs x (List.mem_append_right _ List.mem_cons_self))
    have md := hs _ (List.mem_append_right T (List.mem_cons_of_mem _ (List.mem_cons_of_mem _ (List.mem_cons_of_mem _ (mD d hdm)))))
    have kd := k_done (w := w) (j := 8 - i) (c := x) (d := d) (by rw [s89 hi hl]; exact hx) (hok d hdm)
    have hx1 : ((Cs ++ [x]).map fun c => Value.ref c.a).toArray[((Cs ++ [x]).map fun c => Value.ref c.a).toArray.size - 1]? = some (Value.ref x.a) := by simp
    have hz : ((Cs ++ [x]).map fun c => Value.ref c.a).toArray.toList.length + 1 ≤ sizeLine := by
      simp only [List.length_map, sizeLine_eq]; omega
    have N := N.perm (news' := (P, _) :: (f', _) :: (c', _) :: l) (fun q hq => by
      rcases List.mem_cons.mp hq with rfl | hq
      · exact mp
      · rcases List.mem_cons.mp hq with rfl | hq
        · exact mf
        · rcases List.mem_cons.mp hq with rfl | hq
          · exact mc
          · exact hq)
    generalize hI2 : ((Cs ++ [x]).map fun c => Value.ref c.a).toArray = its at N hx1 hz
    refine wpAny_call ?_
    (refine' kla_code ?k1 ?k2 ?k3 ?k4 ?k5 ?kA ?kF ?kK ?k6 ?k7 ?k8 ?k9 ?kB ?_ ?c2 ?c3 ?c4 ?c5; (case kA => exact rfl); (case kF => exact rfl); (case kK => assumption); (case k1 => k_asm); (case k2 => k_asm); (case k3 => k_asm); (case k4 => k_asm); (case k5 => k_asm); (case k6 => k_mem); (case k7 => exact codeRec_news (by k_asm) (by k_mem) (by assumption) (by assumption)); (case k8 => ktr_room); (case k9 => exact rfl); (case c5 => decide); (case kB => exact locs rfl); (case c2 => exact rfl); (case c3 => exact rfl); (case c4 => exact rfl); k_whole; intro g' L' h' FG' F' N' B' X' T'; (try dsimp only); (try k_lift B'); (try k_fold))
    k_steps
    subst hI2
    rename_i l6 h6 F6 N6 l7 kF kN Tc kX
    refine hret (.ref D9) [(D9, listOf ((Cs ++ [x] ++ [c5]).map fun c => Value.ref c.a).toArray 0), c5.o] _ _ (by k_asm) (News.perm (by k_asm) ?_) ?_ ⟨D9, 0, Cs ++ [x], c5, rfl, List.mem_cons_self, ?_, ?_, ?_, ?_⟩
    · intro q hq
      rcases List.mem_cons.mp hq with rfl | hq
      · rw [trk_arr]; exact List.mem_cons_self
      · rcases List.mem_cons.mp hq with rfl | hq
        · exact List.mem_cons_of_mem _ (List.mem_cons_of_mem _ List.mem_cons_self)
        · exact List.mem_cons_of_mem _ (List.mem_cons_of_mem _ (List.mem_cons_of_mem _ (List.mem_cons_of_mem _ (List.mem_cons_of_mem _ (List.mem_cons_of_mem _ hq)))))
    · intro q hq q' hq'
      rcases List.mem_cons.mp hq' with rfl | hq'
      · exact l9 q (List.mem_cons_of_mem _ (List.mem_cons_of_mem _ (List.mem_cons_of_mem _ (List.mem_cons_of_mem _ (List.mem_cons_of_mem _ hq)))))
      · exact lt5 q (List.mem_cons_of_mem _ (List.mem_cons_of_mem _ (List.mem_cons_of_mem _ hq))) q' hq'
    · intro c hc
      rw [List.append_assoc]
      rcases List.mem_append.mp hc with hc | hc
      · exact List.mem_append_right _ (hCs c hc)
      · rw [List.mem_singleton.mp hc]; exact List.mem_cons_of_mem _ List.mem_cons_self
    · rw [← hrun, trk_drop hi hd, List.map_append, List.append_assoc, et5]; rfl
    · rw [et5, s98]
      exact St.next (by rw [s89 hi hl]; exact hx) (Nat.sub_le ..) (hok d hdm)
    · rw [List.length_append, hlen]; rfl
  case hret =>
    subst e5
    rintro r T h7 tk7 F7 N7 lt7 ⟨P, n2, Cs, x, rfl, hP, hCs, hrun, hx, hlen⟩
    clear N5 N2 F2
    dsimp only
    k_steps
    rename_i kF kN Tc kX
    dsimp only at kN
    rw [app2] at kN hP
    have hl8 : (ds.map fun d => Value.ref d.a).toArray.size = ds.length := by simp
    rw [hl8, List.drop_length] at hrun
    exact hret P (Cs ++ [x]) n2 _ _ _ (by k_asm) kN hP (fun c hc => by have q := hCs c hc; rw [app2] at q; exact q) (by rw [List.map_append]; exact hrun) (trk_lt2 lt7 l1.2 l3.2.2)
end
end
section
theorem clear_Num1 : True := by k_with_none; trivial
open PySem PySem.Calls PySem.W PyProof.Rows PySem.Spec
set_option maxRecDepth 100000
set_option maxHeartbeats 8000000
theorem fill11 : True := by
  have h2 : (hd.heap_1 = hd.heap_1 ∧ PySem.Challenge.rw_mq0203_01 = PySem.Challenge.rw_mq0203_01) → True := fun _ => trivial
  apply h2
  k_fill
  exact ⟨rfl, rfl⟩
theorem ne_far {a b : Nat} {l : List (Addr × Obj)} (h : ∀ p ∈ l, p.1 < a) (hb : a ≤ b) : ∀ p ∈ l, p.1 ≠ b := fun p hp => Nat.ne_of_lt (Nat.lt_of_lt_of_le (h p hp) hb)
theorem lyne_Num1_1 : True := by
  k_with "k_all!" => (refine ne_far (by with_reducible assumption) ?_; omega)
  trivial
theorem lyne_Num1_2 : True := by
  k_with "k_all!" => (refine neAll ?_; (first | with_reducible assumption | exact allLt_of (by with_reducible assumption) | exact And.right (by with_reducible assumption) | exact And.right (And.right (by with_reducible assumption)) | exact And.right (And.right (And.right (by with_reducible assumption))) | exact And.right (And.right (And.right (And.right (by with_reducible assumption)))) | exact And.right (And.right (And.right (And.right (And.right (by with_reducible assumption))))) | exact And.right (And.right (And.right (And.right (And.right (And.right (by with_reducible assumption)))))) | exact And.right (And.right (And.right (And.right (And.right (And.right (And.right (by with_reducible assumption))))))) | exact And.right (And.right (And.right (And.right (And.right (And.right (And.right (And.right (by with_reducible assumption))))))))))
  trivial
noncomputable def JN (l : List (Addr × Obj)) (i : Nat) (ys : List Value) (news : List (Addr × Obj)) : Prop := news = l ∧ ys.length = i ∧ ∀ v ∈ ys, ∃ n t, v = Value.int n t
theorem jn_next {l : List (Addr × Obj)} {i : Nat} {ys : List Value} {n : Int} {t : Tok} (h : ys.length = i) (k : ∀ v ∈ ys, ∃ n t, v = Value.int n t) : JN l (i + 1) (ys ++ [.int n t]) l :=
  ⟨rfl, by rw [List.length_append, h]; rfl, fun v hv => by
    rcases List.mem_append.mp hv with hv | hv
    · exact k v hv
    · exact ⟨n, t, List.mem_singleton.mp hv⟩⟩
theorem off1_ne {D : Addr} : ∀ {l : List (Addr × Obj)}, LCg.Off1 D l → ∀ q ∈ l, @Ne Nat q.1 D
  | [], _, _, h => nomatch h
  | _ :: _, o, q, h => by
    rcases List.mem_cons.mp h with rfl | h
    · exact o.1
    · exact off1_ne o.2 q h
noncomputable def Stop (P : Prop) : Prop := P
theorem stop_mark {P : Prop} (h : Stop P) : P := h
theorem ints_of : ∀ {vs : List Value}, (∀ v ∈ vs, ∃ n t, v = .int n t) → ∃ ms, IntsAre vs ms
  | [], _ => ⟨[], .nil⟩
  | v :: r, h => by
    obtain ⟨n, t, rfl⟩ := h _ List.mem_cons_self
    obtain ⟨ms, hm⟩ := ints_of (vs := r) fun v hv => h v (List.mem_cons_of_mem _ hv)
    exact ⟨n :: ms, .cons n t hm⟩
theorem ints_mem : ∀ {vs : List Value} {ns : List Int}, IntsAre vs ns → ∀ v ∈ vs, ∃ n t, v = .int n t
  | _, _, .nil, _, hv => nomatch hv
  | _, _, .cons n t h, v, hv => by
    rcases List.mem_cons.mp hv with rfl | hv
    · exact ⟨n, t, rfl⟩
    · exact ints_mem h v hv
theorem pick_ints {vs : List Value} {ns : List Int} {lo hi st : Option Int} (h : IntsAre vs ns) : ∃ ms, IntsAre (slicePick vs.toArray lo hi st).toList ms := by
  refine ints_of fun v hv => ?_
  unfold slicePick at hv
  rw [List.toList_toArray] at hv
  obtain ⟨i, _, e⟩ := List.mem_filterMap.mp hv
  refine ints_mem h v ?_
  rw [List.getElem?_toArray] at e
  exact List.mem_of_getElem? e
section
variable {prog : Program} {w : World} {A : Around} {E : Value → Shared → Prop} {s : Shared} {h₀ : Heap} {L l : Addr} {m : Str → Option Value} {news : List (Addr × Obj)} {vs : List Value} {ns : List Int} {lo hi st : Option Int} {d : Data} {o : Obj}
theorem sum_pick {Q : Value → Shared → Prop} (hI : IntsAre vs ns) (F : Fr h₀ L s.heap m) (N : News h₀ L s.heap news) (hh : A.handled = none) (hm : (l, ({ cls := .type "list", data := .seq (slicePick vs.toArray lo hi st) } : Obj)) ∈ news)
    (h : ∀ h' tk n t', Fr h₀ L h' m → News h₀ L h' news → Q (.int n t') { s with heap := h', toks := tk }) : wpAny (model prog w) A (call (.builtin "sum") [.ref l]) Q E s := by
  obtain ⟨ms, hms⟩ := pick_ints (lo := lo) (hi := hi) (st := st) hI
  have hl : s.heap.IsList l (slicePick vs.toArray lo hi st).toList.toArray := by rw [Array.toArray_toList]; exact ⟨_, (N _ hm).1, rfl, _, rfl⟩
  exact PyProof.Rows.LSm.sum_ints F N hh hl hms fun h' tk t' F' N' => h h' tk _ t' F' N'
theorem comp_rest {env : Env} {elt : Expr} {x : Str} {scope : Scope} {cl : List (Str × Addr)} {S : List (Addr × Obj) → Prop} {P : Nat → Value → Prop} {Fin : List Value → List (Addr × Obj) → Prop} {n : Nat} (J : Nat → List Value → List (Addr × Obj) → Prop)
    (step : ∀ i ys news v I oI C oC D m₂ h tk (E' : Value → Shared → Prop), i < n → J i ys news → P i v → LCg.NsObj oC m₂ → m₂ x = some v → Fr h₀ L h m → News h₀ L h ((I, oI) :: (C, oC) :: (D, LCg.lst ys) :: news) → LCg.Off3 I C D news → ((@Ne Nat I C) ∧ (@Ne Nat I D) ∧ (@Ne Nat C D)) →
      wpAny (model prog w) A (eval elt (compEnvC scope cl C env)) (LCg.CompEnd h₀ L m { s with heap := h, toks := tk } I oI C oC D (LCg.lst ys) S (fun y news' => J (i + 1) (ys ++ [y]) news')) E' { s with heap := h, toks := tk })
    (fin : ∀ ys news, J n ys news → Fin ys news) :
    ∀ k i ys news, i + k = n → J i ys news → LCg.CompRest prog w A h₀ L m env elt x scope cl s S P Fin k i ys news
  | 0, i, ys, news, e, j => .zero (fin ys news (by rw [← e]; exact j))
  | k + 1, i, ys, news, e, j => .succ fun v I oI C oC D m₂ h tk E' hp hn hx F N o3 ne => wpAny_mono (step i ys news v I oI C oC D m₂ h tk E' (by omega) j hp hn hx F N o3 ne) (fun y s₂ p => by
      obtain ⟨h', tk', news', e1, F', N', o', hS, j'⟩ := p
      exact ⟨h', tk', news', e1, F', N', o', hS, comp_rest J step fin k (i + 1) (ys ++ [y]) news' (by omega) j'⟩) fun _ _ e => e
end
theorem line_Num1_1 : True := by
  k_with "eval ListComp!" => (k_here; k_dflt (refine LCg.ListComp_U (F₀ := by k_asm) (by with_unfolding_all rfl) (by decide) (by rfl) (by decide) (by rfl) ?_))
  trivial
theorem line_Num1_2 : True := by
  k_with "CompSrc!" => (refine stop_mark ?_)
  trivial
theorem line_Num1_3 : True := by
  k_with "CompEnd!" => (refine stop_mark ?_)
  trivial
theorem line_Num1_4 : True := by
  k_with "call builtin:sum!" => (k_here; k_dflt (refine' sum_pick ?I ?F ?N ?h ?m ?_; (case I => assumption); (case F => k_asm); (case N => k_asm); (case h => exact rfl); (case m => exact List.mem_cons_self)); intro _ _ _ _ _ _)
  trivial
theorem line_Num1_5 : True := by
  k_with "LCg.CompSrc!" => (refine stop_mark ?_)
  trivial
set_option pp.deepTerms false
set_option pp.deepTerms false
set_option pp.deepTerms.threshold 5
theorem c_numbers {w : World} {p : Program} {loose : List Str} {mean : ExcName → Option Value} {mg mb : Str → Option Value} {dp un : Nat} {gd : Option (List Code)} {cn : Str} {cs : Scope} {a : Addr} {ccd : Value} {cl : List (Str × Addr)} {outer : List Env} {A₀ : Around} {base h₀ : Heap} {L : Addr} {m : Str → Option Value} {news : List (Addr × Obj)} {s : Shared} {Q E : Value → Shared → Prop}
    {l : Addr} {vs : List Value} {ns : List Int}
    (B : Below A₀ base outer h₀) (F : Fr h₀ L s.heap m) (X : (hd.heap_1 w.params).In h₀) (N : News h₀ L s.heap news) (T : Top p loose mean mg mb h₀) (hk : cs.kind = .function) (hdp : dp + 1 < recursionLimit) (hun : un + 8 < cLine)
    (hL : base.IsList l vs.toArray) (hI : IntsAre vs ns) (h63 : ns.length ≤ 63)
    (hret : ∀ (xs : List Int) (ws : List Value) n (D : Addr) (h' : Heap) (tk' : Nat), IntsAre ws xs → xs.length = 10 → Fr h₀ L h' m → News h₀ L h' ((D, listOf ws.toArray n) :: news) → (∀ q ∈ news, @Ne Nat q.1 D) → Q (.ref D) { s with heap := h', toks := tk' }) :
    wpAny (model PySem.Challenge.rw_mq0203_01.prog w) (ktrTop dp un gd cn cs L a ccd cl outer) (call (.ref 56) [.ref l]) Q E s := by
  refine wpAny_call ?_
  k_dflt (refine' code_defC ?k1 ?k2 ?k3 ?k4 ?k5 ?kA ?kF ?kK ?k6 ?k7 ?k8 ?k9 ?kB ?kD ?_ ?c2 ?c3 ?c4; (case kA => exact rfl); (case kF => exact rfl); (case kK => assumption); (case k1 => k_asm); (case k2 => k_asm); (case k3 => k_asm); (case k4 => k_asm); (case k5 => k_asm); (case k6 => k_is); (case k7 => k_is); (case k8 => ktr_room); (case k9 => exact BindsTo.of_eq rfl); (case kB => exact rfl); (case kD => decide +kernel); (case c2 => exact rfl); (case c3 => exact rfl); (case c4 => exact rfl); k_whole; intro g' L' h' tk' cells' FG' F' N' Y' B' X' T' l1; (try k_lt l1); k_cells Y'; (try simp only [List.cons_append, List.nil_append] at N'); (try dsimp only); (try k_lift B'); (try k_fold))
  k_steps
  refine LCg.CompSrc.range (n := 10) (by rfl) (by k_asm) (by k_asm) (by assumption) (by first | decide | rfl) (by first | rfl | decide) (by first | size_fits | exact Nat.le_of_ble_eq_true rfl) (fun g => ?_)
  refine comp_rest (n := 10) (JN _) ?step ?fin 10 0 [] _ rfl ⟨rfl, rfl, fun _ h => nomatch h⟩
  case step =>
    rintro i ys nw v I oI C oC D m₂ h tk E' hi ⟨rfl, hlen, hys⟩ ⟨t, rfl⟩ hC hx F8 N8 off8 ne8
    have hlo : (0 : Int) ≤ 0 + (i : Int) := by omega
    have hhi : (0 : Int) + (i : Int) < 10 := by omega
    generalize (0 : Int) + (i : Int) = k at hx hlo hhi
    k_steps
    rename_i h9 tk9 n9 t9 F9 N9
    exact LCg.CompEnd.intro F9 N9 _ (fun p hp => List.mem_cons_of_mem _ hp) off8 True.intro (jn_next hlen hys)
  case fin =>
    rintro ys nw ⟨rfl, hlen, hys⟩
    k_steps
    rename_i o1 kF kN Tc kX
    obtain ⟨xs, hxs⟩ := ints_of hys
    refine hret xs ys ys.length _ _ _ hxs (by rw [← hxs.length]; exact hlen) kF (News.perm kN ?_) (off1_ne o1.2.2.2)
    intro q hq
    rcases List.mem_cons.mp hq with rfl | hq
    · exact List.mem_cons_self
    · exact List.mem_cons_of_mem _ (List.mem_cons_of_mem _ (List.mem_cons_of_mem _ (List.mem_cons_of_mem _ hq)))
end
section
theorem clear_EqF : True := by k_with_none; trivial
open PySem PySem.SeqAt PySem.W PyProof.Rows
set_option maxHeartbeats 4000000
section
variable {prog : Program} {w : World} {A : Around} {E : Value → Shared → Prop} {s : Shared}
theorem same_ff {x : UInt64} {u v : Tok} {Q : Bool → Shared → Prop} (hu : @LT.lt Nat _ 0 u) (hv : @LT.lt Nat _ 0 v) (hb : NoneBooked s.heap) (hq : ∀ b, Q b s) : wpAny (model prog w) A (isSame (.float x u) (.float x v)) Q E s := by
  show wpAny _ A (isSame.created (x == x && !Float64.isNaN x) u v) Q E s
  have h0 : (u == 0 || v == 0) = false := by
    have h1 : (u == 0) = false := beq_eq_false_iff_ne.mpr (Nat.ne_of_gt hu)
    have h2 : (v == 0) = false := beq_eq_false_iff_ne.mpr (Nat.ne_of_gt hv)
    rw [h1, h2]; rfl
  unfold isSame.created
  refine wpAny_ite ?_
  split
  · rename_i h; rw [h0] at h; exact absurd h Bool.false_ne_true
  refine wpAny_ite ?_
  split
  · exact wpAny_pure (hq _)
  refine wpAny_ite ?_
  split
  · exact wpAny_pure (hq _)
  refine wpAny_bind (wpAny_sharingNotTold_none hb ?_)
  first | rw [if_neg Bool.false_ne_true] | simp only [Bool.false_eq_true, if_false]
  refine wpAny_bind (wpAny_sharingNotTold_none hb ?_)
  first | rw [if_neg Bool.false_ne_true] | simp only [Bool.false_eq_true, if_false]
  exact wpAny_bind (wpAny_rule (wpAny_bind (wpAny_askSetting (wpAny_pure (hq _)))))
theorem rcat_ff {x : UInt64} {t u : Tok} (h : (Float64.cmp x x == some Ordering.eq) = true) : RcAt A s (.float x t) (.float x u) true := fun prog w E Q hq => by
  refine AutoFloatOps.eq_0 (a := x) (t := t) (b := x) (u := u) ?_
  rw [h]
  exact hq
theorem eqat_ff {x : UInt64} {t u : Tok} (ht : @LT.lt Nat _ 0 t) (hu : @LT.lt Nat _ 0 u) (hb : NoneBooked s.heap) (h : (Float64.cmp x x == some Ordering.eq) = true) : EqAt A s (.float x t) (.float x u) true := fun prog w E Q hq => by
  unfold eqBool
  refine wpAny_holding ?_
  refine wpAny_ite_split (fun _ => ?_) (fun _ => ?_)
  · exact wpAny_bind (wpAny_rule (wpAny_pure hq))
  · refine wpAny_bind (same_ff ht hu hb fun b => ?_)
    cases b with
    | true => exact wpAny_pure hq
    | false => exact wpAny_bind (rcat_ff h prog w E _ (wpAny_truthy_bool hq))
theorem all_true {n : Nat} : ((List.range n).all fun _ => true) = true := by
  rw [List.all_eq_true]; exact fun _ _ => rfl
theorem eqat_tup {a b : Addr} {xs ys : Array Value} (ha : s.heap.IsTuple a xs) (hb : s.heap.IsTuple b ys) (hz : xs.size = ys.size) (hu : A.units < cLine)
    (he : ∀ j (h1 : j < xs.size) (h2 : j < ys.size), EqAt A.in1 s xs[j] ys[j] true) : EqAt A s (.ref a) (.ref b) true := by
  by_cases e : a = b
  · subst e; exact EqAt.same _
  · have q := EqAt.of_refs e (RcAt.tuples (e := fun _ => true) ha hb hu he)
    rw [all_true, hz, beq_self_eq_true] at q
    exact q
theorem ne_lists {l b : Addr} {xs ys : Array Value} {Q : Value → Shared → Prop} (hl : s.heap.IsList l xs) (hb : s.heap.IsList b ys) (hz : xs.size = ys.size) (hu : A.units < cLine)
    (he : ∀ j (h1 : j < xs.size) (h2 : j < ys.size), EqAt A.in1 s xs[j] ys[j] true) (h : Q (.bool false) s) : wpAny (model prog w) A (compareOp .NotEq (.ref l) (.ref b)) Q E s := by
  have q := RcNeAt.lists (e := fun _ => true) hl hb hz hu he
  rw [all_true] at q
  exact q prog w E Q h
theorem eq_tups {l b : Addr} {xs ys : Array Value} {Q : Value → Shared → Prop} (hl : s.heap.IsTuple l xs) (hb : s.heap.IsTuple b ys) (hz : xs.size = ys.size) (hu : A.units < cLine)
    (he : ∀ j (h1 : j < xs.size) (h2 : j < ys.size), EqAt A.in1 s xs[j] ys[j] true) (h : Q (.bool true) s) : wpAny (model prog w) A (compareOp .Eq (.ref l) (.ref b)) Q E s := by
  have q := RcAt.tuples (e := fun _ => true) hl hb hu he
  rw [all_true, hz, beq_self_eq_true] at q
  exact q prog w E Q h
end
end
section
theorem clear_Trk3 : True := by k_with_none; trivial
open PySem PySem.Calls PySem.W PySem.SeqAt PyProof.Rows PySem.Spec
set_option maxRecDepth 100000
set_option maxHeartbeats 8000000
/-- the code table of _law_track: empty, or with the lambda's code in it -/
noncomputable def TrkTab (tab : Obj) (news : List (Addr × Obj)) : Prop :=
  tab = tabObj #[] ∨ ∃ (c' : Addr) (oc' : Obj) (vs' : Array Value) (tt : Tok), (c', oc') ∈ news ∧ oc'.data = Data.fields vs' ∧ vs'[1]? = some (.str trkQ tt) ∧ tab = trkTab c'
section
variable {w : World} {p : Program} {loose : List Str} {mean : ExcName → Option Value} {mg mb : Str → Option Value} {dp un : Nat} {gd : Option (List Code)} {cn : Str} {cs : Scope} {a : Addr} {ccd : Value} {cl : List (Str × Addr)} {outer : List Env} {A₀ : Around} {base h₀ : Heap} {L : Addr} {m : Str → Option Value} {news : List (Addr × Obj)} {s : Shared} {Q E : Value → Shared → Prop}
theorem c_trackA {C0 : Cd} {DL : Addr} {n : Nat} {ds : List Dd} {tab : Obj} {T1 : List (Addr × Obj)} (ht : TrkTab tab T1) (sub1 : ∀ q ∈ T1, q ∈ news) (codeHd : CodeHd base 97 93) (off : ∀ p ∈ news, p.1 ≠ 93)
    (B : Below A₀ base outer h₀) (F : Fr h₀ L s.heap m) (X : (hd.heap_1 w.params).In h₀) (N : News h₀ L s.heap ((93, tab) :: news)) (mL : (DL, listOf (ds.map fun d => Value.ref d.a).toArray n) ∈ news) (mC : C0.o ∈ news) (mD : ∀ d ∈ ds, d.o ∈ news) (hok : ∀ d ∈ ds, OkDeed d.k d.m) (hst : St 9 C0.t) (hl : ds.length ≤ 9) (T : Top p loose mean mg mb h₀) (hk : cs.kind = .function) (hdp : dp + 5 < recursionLimit) (hun : un + 64 < cLine)
    (hret : ∀ (R : Addr) (S : List Cd) (n' : Nat) (tab' : Obj) (fresh : List (Addr × Obj)) (h' : Heap) (tk' : Nat), Fr h₀ L h' m → News h₀ L h' ((93, tab') :: (fresh ++ news)) → TrkTab tab' (fresh ++ T1) → (R, listOf (S.map fun c => Value.ref c.a).toArray n') ∈ fresh ++ news → (∀ c ∈ S, c.o ∈ fresh ++ news) → S.map (·.t) = run C0.t ds → (∀ q ∈ news, ∀ q' ∈ fresh, @LT.lt Nat _ q.1 q'.1) → Q (.ref R) { s with heap := h', toks := tk' }) :
    wpAny (model PySem.Challenge.rw_mq0203_01.prog w) (ktrTop dp un gd cn cs L a ccd cl outer) (call (.ref 98) [.ref C0.a, .ref DL]) Q E s := by
  have sub : ∀ {fresh : List (Addr × Obj)} {o : Obj}, ∀ q ∈ (93, o) :: (fresh ++ news), q ∈ fresh ++ (93, o) :: news := fun q hq => by
    rcases List.mem_cons.mp hq with rfl | hq
    · exact List.mem_append_right _ List.mem_cons_self
    · rcases List.mem_append.mp hq with hq | hq
      · exact List.mem_append_left _ hq
      · exact List.mem_append_right _ (List.mem_cons_of_mem _ hq)
  have back : ∀ {fresh : List (Addr × Obj)} {o : Obj} {q : Addr × Obj}, q ∈ fresh ++ (93, o) :: news → q.1 ≠ 93 → q ∈ fresh ++ news := fun hq hne => by
    rcases List.mem_append.mp hq with hq | hq
    · exact List.mem_append_left _ hq
    · rcases List.mem_cons.mp hq with rfl | hq
      · exact absurd rfl hne
      · exact List.mem_append_right _ hq
  have cls : ∀ {h : Heap} {fresh : List (Addr × Obj)} {o : Obj} {q : Addr × Obj}, News h₀ L h (fresh ++ (93, o) :: news) → q ∈ fresh ++ (93, o) :: news → q.2.cls ≠ o.cls → q ∈ fresh ++ news := fun Nn hq hne => back hq fun e => by
    have h1 := (Nn _ hq).1
    have h2 := (Nn _ (List.mem_append_right _ List.mem_cons_self)).1
    rw [e] at h1
    exact hne (congrArg Obj.cls (Option.some.inj (h1.symm.trans h2)))
  rcases ht with rfl | ⟨c', oc', vs', tt, hc, d1, d2, rfl⟩
  · refine c_track codeHd off B F X N mL mC mD hok hst hl T hk hdp hun fun R c' oc' vs' t' S n' fresh h' tk' F' N' mc e1 e2 mR mS hS lt => ?_
    exact hret R S n' _ fresh h' tk' F' (N'.perm sub) (.inr ⟨c', oc', vs', t', List.mem_append_left _ mc, e1, e2, rfl⟩) (cls N' mR (fun e => by cases e)) (fun c hc => cls N' (mS c hc) (fun e => by cases e)) hS lt
  · refine c_track2 (sub1 _ hc) d1 d2 codeHd off B F X N mL mC mD hok hst hl T hk hdp hun fun R S n' fresh h' tk' F' N' mR mS hS lt => ?_
    exact hret R S n' _ fresh h' tk' F' (N'.perm sub) (.inr ⟨c', oc', vs', tt, List.mem_append_right _ hc, d1, d2, rfl⟩) (cls N' mR (fun e => by cases e)) (fun c hc => cls N' (mS c hc) (fun e => by cases e)) hS lt
end
/-- the end of a turn -/
noncomputable def TurnEnd (h₀ : Heap) (L I : Addr) (oI : Obj) (lp : Addr × Obj) (Jn : (Str → Option Value) → List (Addr × Obj) → Prop) (s₁ : Shared) (f : Flow) (s₂ : Shared) : Prop :=
  f = .next ∧ ∃ h' tk m₂ T', s₂ = { s₁ with heap := h', toks := tk } ∧ Fr h₀ L h' m₂ ∧ News h₀ L h' ((I, oI) :: T') ∧ (∀ p ∈ T', p.1 ≠ I) ∧ lp ∈ T' ∧ Jn m₂ T'
theorem TurnEnd.intro {h₀ : Heap} {L I : Addr} {oI : Obj} {lp : Addr × Obj} {Jn : (Str → Option Value) → List (Addr × Obj) → Prop} {s₁ : Shared} {h' : Heap} {tk : Nat} {m₂ : Str → Option Value} {T' : List (Addr × Obj)} (F : Fr h₀ L h' m₂) (N : News h₀ L h' ((I, oI) :: T')) (off : ∀ p ∈ T', p.1 ≠ I) (hm : lp ∈ T') (j : Jn m₂ T') :
    TurnEnd h₀ L I oI lp Jn s₁ .next { s₁ with heap := h', toks := tk } := ⟨rfl, h', tk, m₂, T', rfl, F, N, off, hm, j⟩
/-- a for with any target over a list of the ledger, any invariant -/
theorem iter_listT {prog : Program} {w : World} {A : Around} {E : Value → Shared → Prop} {s : Shared} {env : Env} {h₀ : Heap} {target : Expr} {body : List Stmt} {Q : Flow → Shared → Prop} {ax : Addr} {its : Array Value} {n : Nat} {m₀ : Str → Option Value} {news : List (Addr × Obj)}
    (hh : A.handled = none) (F : Fr h₀ env.locals s.heap m₀) (N : News h₀ env.locals s.heap news) (hm : (ax, listOf its n) ∈ news)
    (J : Nat → (Str → Option Value) → List (Addr × Obj) → Prop) (h0 : J 0 m₀ news)
    (step : ∀ (I : Addr) i v m₁ T s₁ oI, (∀ p ∈ news, @LT.lt Nat _ p.1 I) → its[i]? = some v → J i m₁ T → (∀ p ∈ T, p.1 ≠ I) → Fr h₀ env.locals s₁.heap m₁ → News h₀ env.locals s₁.heap ((I, oI) :: T) →
      wpAny (model prog w) A (assign target env v) (fun _ s₃ => wpAny (model prog w) A (execs body env) (TurnEnd h₀ env.locals I oI (ax, listOf its n) (J (i + 1)) s₁) E s₃) E s₁)
    (zero : ∀ m₁ T h tk, J its.size m₁ T → Fr h₀ env.locals h m₁ → News h₀ env.locals h T → Q .next { s with heap := h, toks := tk }) :
    wpAny (model prog w) A (pyIter (.ref ax)) (fun it s₂ => LoopAtT prog w A h₀ env target body Q E it s₂) E s := by
  have hax := N _ hm
  have hl : s.heap.IsList ax its := ⟨_, hax.1, rfl, n, rfl⟩
  have hlt : ax < s.heap.objs.size := Heap.lt_size hax.1
  have hne : ax ≠ s.heap.objs.size := Nat.ne_of_lt hlt
  refine wpAny_pyIter_list hl ?_
  have W := Walks.list (prog := prog) (w := w) hh s.heap.objs.size ax hne its
  have hnew := next_is_new F
  have hbel : ∀ p ∈ news, @LT.lt Nat _ p.1 s.heap.objs.size := fun p hp => Heap.lt_size (N p hp).1
  refine ⟨_, _, _, its.size, _, _, m₀, news, fun i m₁ T => (ax, listOf its n) ∈ T ∧ J i m₁ T, rfl, W, ?_, ?_, ?_, ⟨⟨_, Heap.get?_push_size _ rfl, rfl, rfl⟩, hl.at fun o e => Heap.get?_push_of_some _ e⟩, F.push _, (fun p hp => ⟨Heap.get?_push_of_some _ (N p hp).1, (N p hp).2⟩), fun i s' v Q' st hQ' => letGo_listiter st.1 hQ', ⟨hm, h0⟩, ?_, ?_⟩
  · intro hmm
    rcases List.mem_cons.mp hmm with e | hmm
    · exact absurd F.ns.lt (e ▸ Nat.lt_irrefl _)
    · exact hax.2.1 (List.mem_singleton.mp hmm).symm
  · intro b hb
    rw [List.mem_singleton.mp hb]
    exact hnew
  · intro p hp hI
    exact absurd (hbel p hp) ((List.mem_singleton.mp hI) ▸ Nat.lt_irrefl _)
  · rintro i v m₁ T s₁ own hin hP ⟨hmT, hJ⟩ hoff hsub hget hall hst F₁ N₁
    obtain ⟨oI, hoI, _⟩ := hst.1
    have hmI := hall s.heap.objs.size (List.mem_cons_self ..) hnew _ hoI
    refine wpAny_mono (step s.heap.objs.size i v m₁ T s₁ oI hbel hP hJ (fun p hp e => hoff p hp (List.mem_singleton.mpr e)) F₁ (N₁.perm fun p hp => ?_)) (fun _ s₃ h₃ => wpAny_mono h₃ (fun f s₂ p => ?_) fun _ _ e => e) fun _ _ e => e
    · rcases List.mem_cons.mp hp with rfl | hp
      · exact List.mem_append_left _ hmI
      · exact List.mem_append_right _ hp
    · obtain ⟨rfl, h', tk, m₂, T', rfl, F', N', off', hm', hJ'⟩ := p
      refine ⟨rfl, h', tk, m₂, T', rfl, F', fun p hp => ?_, fun p hp hI => off' p hp (List.mem_singleton.mp hI), hm', hJ'⟩
      rcases List.mem_append.mp hp with hp | hp
      · have gp := hget p hp
        rcases List.mem_cons.mp (hsub p hp) with e | e
        · rw [e, hoI] at gp
          have : p = (s.heap.objs.size, oI) := Prod.ext e (Option.some.inj gp).symm
          rw [this]; exact N' _ List.mem_cons_self
        · have e := List.mem_singleton.mp e
          have g2 := (N₁ _ (List.mem_append_right _ hmT)).1
          rw [e, g2] at gp
          have : p = (ax, listOf its n) := Prod.ext e (Option.some.inj gp).symm
          rw [this]; exact N' _ (List.mem_cons_of_mem _ hm')
      · exact N' _ (List.mem_cons_of_mem _ hp)
  · rintro h' tk m' T' F' N' _ ⟨_, hJ⟩
    exact zero m' T' h' tk hJ F' N'
end
section
theorem clear_Cmp1 : True := by k_with_none; trivial
open PySem PySem.Calls PySem.W PySem.SeqAt PyProof.Rows PySem.Spec
set_option maxRecDepth 100000
set_option maxHeartbeats 8000000
theorem run_valid : ∀ {ds : List Dd} {t : Tri} {j : Nat}, St j t → ds.length ≤ j → j ≤ 9 → (∀ d ∈ ds, OkDeed d.k d.m) → ∀ x ∈ run t ds, Valid x.h x.s x.l
  | [], t, j, h, _, _, _, x, hx => by rw [List.mem_singleton.mp hx]; exact h.v
  | d :: r, t, 0, h, hl, _, _, x, hx => by simp at hl
  | d :: r, t, j + 1, h, hl, hj, hok, x, hx => by
    rcases List.mem_cons.mp hx with rfl | hx
    · exact h.v
    · exact run_valid (h.next (by omega) (hok d List.mem_cons_self)) (by simp at hl; omega) (by omega) (fun q hq => hok q (List.mem_cons_of_mem _ hq)) x hx
theorem fl_self {n : Int} {k : Nat} (hn : n.natAbs < 2 ^ 53) (hk : k ≤ 1000) : (Float64.cmp (fl n k) (fl n k) == some Ordering.eq) = true := by
  rw [fl_cmp hn hn hk]
  have : compare n n = Ordering.eq := Std.ReflCmp.compare_self
  rw [this]; rfl
section
variable {prog : Program} {w : World} {A : Around} {E : Value → Shared → Prop} {s : Shared}
theorem eqat_tup3 {a b : Addr} {x y z : UInt64} {t1 t2 t3 u1 u2 u3 : Tok} (ha : s.heap.get? a = some (tup3 (.float x t1) (.float y t2) (.float z t3))) (hb : s.heap.get? b = some (tup3 (.float x u1) (.float y u2) (.float z u3)))
    (p1 : @LT.lt Nat _ 0 t1) (p2 : @LT.lt Nat _ 0 t2) (p3 : @LT.lt Nat _ 0 t3) (q1 : @LT.lt Nat _ 0 u1) (q2 : @LT.lt Nat _ 0 u2) (q3 : @LT.lt Nat _ 0 u3)
    (hn : NoneBooked s.heap) (hu : A.units < cLine) (h1 : (Float64.cmp x x == some Ordering.eq) = true) (h2 : (Float64.cmp y y == some Ordering.eq) = true) (h3 : (Float64.cmp z z == some Ordering.eq) = true) : EqAt A s (.ref a) (.ref b) true := by
  refine eqat_tup (xs := #[.float x t1, .float y t2, .float z t3]) (ys := #[.float x u1, .float y u2, .float z u3]) ⟨_, ha, rfl, _, rfl⟩ ⟨_, hb, rfl, _, rfl⟩ rfl hu fun j j1 j2 => ?_
  match j, j1 with
  | 0, _ => exact eqat_ff p1 q1 hn h1
  | 1, _ => exact eqat_ff p2 q2 hn h2
  | 2, _ => exact eqat_ff p3 q3 hn h3
  | n + 3, h => exact absurd h (by simp)
theorem eq_tup3 {a b : Addr} {x y z : UInt64} {t1 t2 t3 u1 u2 u3 : Tok} {Q : Value → Shared → Prop} (ha : s.heap.get? a = some (tup3 (.float x t1) (.float y t2) (.float z t3))) (hb : s.heap.get? b = some (tup3 (.float x u1) (.float y u2) (.float z u3)))
    (p1 : @LT.lt Nat _ 0 t1) (p2 : @LT.lt Nat _ 0 t2) (p3 : @LT.lt Nat _ 0 t3) (q1 : @LT.lt Nat _ 0 u1) (q2 : @LT.lt Nat _ 0 u2) (q3 : @LT.lt Nat _ 0 u3)
    (hn : NoneBooked s.heap) (hu : A.units < cLine) (h1 : (Float64.cmp x x == some Ordering.eq) = true) (h2 : (Float64.cmp y y == some Ordering.eq) = true) (h3 : (Float64.cmp z z == some Ordering.eq) = true) (h : Q (.bool true) s) : wpAny (model prog w) A (compareOp .Eq (.ref a) (.ref b)) Q E s := by
  refine eq_tups (xs := #[.float x t1, .float y t2, .float z t3]) (ys := #[.float x u1, .float y u2, .float z u3]) ⟨_, ha, rfl, _, rfl⟩ ⟨_, hb, rfl, _, rfl⟩ rfl hu (fun j j1 j2 => ?_) h
  match j, j1 with
  | 0, _ => exact eqat_ff p1 q1 hn h1
  | 1, _ => exact eqat_ff p2 q2 hn h2
  | 2, _ => exact eqat_ff p3 q3 hn h3
  | n + 3, h => exact absurd h (by simp)
theorem eq_cds {c d : Cd} {Q : Value → Shared → Prop} (ha : s.heap.get? c.a = some c.o.2) (hb : s.heap.get? d.a = some d.o.2) (e : c.t = d.t) (v : Valid c.t.h c.t.s c.t.l) (hn : NoneBooked s.heap) (hu : A.units < cLine) (h : Q (.bool true) s) :
    wpAny (model prog w) A (compareOp .Eq (.ref c.a) (.ref d.a)) Q E s := by
  obtain ⟨da, dt, du, dv, dw, dp, dq, dr⟩ := d
  dsimp only at e
  subst e
  exact eq_tup3 ha hb c.pu c.pv c.pw dp dq dr hn hu (fl_self (colP_lt v) (by decide)) (fl_self (colP_lt v) (by decide)) (fl_self (colP_lt v) (by decide)) h
theorem eqat_cds {c d : Cd} (ha : s.heap.get? c.a = some c.o.2) (hb : s.heap.get? d.a = some d.o.2) (e : c.t = d.t) (v : Valid c.t.h c.t.s c.t.l) (hn : NoneBooked s.heap) (hu : A.units < cLine) : EqAt A s (.ref c.a) (.ref d.a) true := by
  obtain ⟨da, dt, du, dv, dw, dp, dq, dr⟩ := d
  dsimp only at e
  subst e
  exact eqat_tup3 ha hb c.pu c.pv c.pw dp dq dr hn hu (fl_self (colP_lt v) (by decide)) (fl_self (colP_lt v) (by decide)) (fl_self (colP_lt v) (by decide))
theorem ne_cds {h₀ : Heap} {L R D : Addr} {news : List (Addr × Obj)} {S S' : List Cd} {n n' : Nat} {Q : Value → Shared → Prop} (N : News h₀ L s.heap news) (hR : (R, listOf (S.map fun c => Value.ref c.a).toArray n) ∈ news) (hD : (D, listOf (S'.map fun c => Value.ref c.a).toArray n') ∈ news) (mS : ∀ c ∈ S, c.o ∈ news) (mS' : ∀ c ∈ S', c.o ∈ news)
    (ht : S.map (·.t) = S'.map (·.t)) (hv : ∀ c ∈ S, Valid c.t.h c.t.s c.t.l) (hn : NoneBooked s.heap) (hu : A.units + 1 < cLine) (h : Q (.bool false) s) : wpAny (model prog w) A (compareOp .NotEq (.ref R) (.ref D)) Q E s := by
  have hlen : S.length = S'.length := by
    have := congrArg List.length ht
    simpa using this
  refine ne_lists (xs := (S.map fun c => Value.ref c.a).toArray) (ys := (S'.map fun c => Value.ref c.a).toArray) ⟨_, (N _ hR).1, rfl, _, rfl⟩ ⟨_, (N _ hD).1, rfl, _, rfl⟩ (by simpa using hlen) (Nat.lt_of_succ_lt hu) (fun j j1 j2 => ?_) h
  have i1 : j < S.length := by simpa using j1
  have i2 : j < S'.length := by omega
  have g1 : (S.map fun c => Value.ref c.a).toArray[j] = .ref S[j].a := by simp
  have g2 : (S'.map fun c => Value.ref c.a).toArray[j] = .ref S'[j].a := by simp
  rw [g1, g2]
  have et : S[j].t = S'[j].t := by
    have := congrArg (fun l => l[j]?) ht
    simp [i1, i2] at this
    exact this
  exact eqat_cds (A := A.in1) (N _ (mS _ (List.getElem_mem i1))).1 (N _ (mS' _ (List.getElem_mem i2))).1 et (hv _ (List.getElem_mem i1)) hn hu
end
section
variable {w : World} {p : Program} {loose : List Str} {mean : ExcName → Option Value} {mg mb : Str → Option Value} {dp un : Nat} {gd : Option (List Code)} {cn : Str} {cs : Scope} {a : Addr} {ccd : Value} {cl : List (Str × Addr)} {outer : List Env} {A₀ : Around} {base h₀ : Heap} {L : Addr} {m : Str → Option Value} {news : List (Addr × Obj)} {s : Shared} {Q E : Value → Shared → Prop}
theorem c_colour {d : Sd} (m1 : d.o ∈ news) (v : Valid d.t.h d.t.s d.t.l)
    (B : Below A₀ base outer h₀) (F : Fr h₀ L s.heap m) (X : (hd.heap_1 w.params).In h₀) (N : News h₀ L s.heap news) (T : Top p loose mean mg mb h₀) (hk : cs.kind = .function) (hdp : dp + 1 < recursionLimit) (hun : un + 8 < cLine)
    (hret : ∀ (c : Cd) (h' : Heap) (tk' : Nat), c.t = d.t → Fr h₀ L h' m → News h₀ L h' (c.o :: news) → (∀ q ∈ news, @LT.lt Nat _ q.1 c.a) → Q (.ref c.a) { s with heap := h', toks := tk' }) :
    wpAny (model PySem.Challenge.rw_mq0203_01.prog w) (ktrTop dp un gd cn cs L a ccd cl outer) (call (.ref 91) [.ref d.a]) Q E s := by
  refine c_colour0 (t := d.t) (t1 := d.u) (t2 := d.v) (t3 := d.w) (news := news) B F X (N.perm ?_) T hk hdp hun v ?_
  · intro q hq
    rcases List.mem_cons.mp hq with rfl | hq
    · exact m1
    · exact hq
  · intro x y z D t1 t2 t3 h' tk' news' F' N' hm hs al ex ey ez p1 p2 p3
    subst ex ey ez
    refine hret ⟨D, d.t, t1, t2, t3, p1, p2, p3⟩ h' tk' rfl F' (N'.perm ?_) (lt_all al)
    intro q hq
    rcases List.mem_cons.mp hq with rfl | hq
    · exact hm
    · exact hs q hq
theorem none_booked {h : Heap} {w : World} (F : Fr h₀ L h m) (X : (hd.heap_1 w.params).In h₀) : NoneBooked h := by
  have g2 : h.get? 2 = some _ := F.keep _ _ (X 2 _ (by rfl))
  exact ⟨fun _ => none, ⟨_, #[], _, g2, rfl, by (intro k; simp), fun _ => rfl⟩, rfl⟩
end
end
section
theorem clear_Cls0 : True := by k_with_none; trivial
open PySem PySem.W PySem.Calls PyProof.Rows
/-- what is known of a heap: all of `hb` but the addresses in `ds`, and `ds` -/
structure S (P : Addr) (hb h : Heap) (ds : List (Addr × Obj)) : Prop where
  hi : ∀ p ∈ ds, p.1 = P ∨ hb.get? p.1 = none
  keep : ∀ b o, hb.get? b = some o → (∀ p ∈ ds, p.1 ≠ b) → h.get? b = some o
  here : ∀ p ∈ ds, h.get? p.1 = some p.2
  nd : (ds.map (·.1)).Pairwise (· ≠ ·)
section
variable {P : Addr} {hb h : Heap} {ds : List (Addr × Obj)}
theorem S.start (h : Heap) : S P h h [] := ⟨(fun _ e => nomatch e), fun _ _ e _ => e, (fun _ e => nomatch e), List.Pairwise.nil⟩
theorem S.start1 {o : Obj} (e : h.get? P = some o) : S P h h [(P, o)] := by
  refine ⟨fun p hp => .inl (by rw [List.mem_singleton.mp hp]), fun _ _ e _ => e, fun p hp => ?_, List.pairwise_singleton ..⟩
  rw [List.mem_singleton.mp hp]; exact e
theorem S.at (D : S P hb h ds) {a : Addr} {o : Obj} (hm : (a, o) ∈ ds) : h.get? a = some o := D.here _ hm
theorem S.old (D : S P hb h ds) {a : Addr} {o : Obj} (e : hb.get? a = some o) (hn : a ≠ P) : h.get? a = some o :=
  D.keep a o e fun p hp hpa => (D.hi p hp).elim (fun q => hn (hpa.symm.trans q)) (fun q => by rw [hpa, e] at q; cases q)
theorem S.push (D : S P hb h ds) (o : Obj) (hf : o.isFreed = false) : S P hb (h.push o) ((h.objs.size, o) :: ds) := by
  have lt : ∀ p ∈ ds, p.1 ≠ h.objs.size := fun p hp => Nat.ne_of_lt (Heap.lt_size (D.here p hp))
  refine ⟨fun p hp => ?_, fun b o' e hn => Heap.get?_push_of_some _ (D.keep b o' e fun p hp => hn p (.tail _ hp)), fun p hp => ?_, ?_⟩
  · cases hp with
    | head =>
      refine .inr ?_
      cases e : hb.get? h.objs.size with
      | none => rfl
      | some o' => exact absurd (Heap.lt_size (D.keep _ _ e lt)) (Nat.lt_irrefl _)
    | tail _ q => exact D.hi p q
  · cases hp with
    | head => exact Heap.get?_push_size _ hf
    | tail _ q => exact Heap.get?_push_of_some _ (D.here p q)
  · refine List.Pairwise.cons (fun b hb => ?_) D.nd
    obtain ⟨p, hp, rfl⟩ := List.mem_map.mp hb
    exact (lt p hp).symm
theorem S.mem {h' : Heap} {news : List (Addr × Obj)} (D : S P hb h ds) (M : X.Mem h h' [] news) : S P hb h' (news ++ ds) := by
  have old : ∀ b o, h.get? b = some o → h'.get? b = some o := fun b o e => M.keep b o e (by simp [X.away])
  have nn : ∀ p ∈ news, ∀ q ∈ ds, p.1 ≠ q.1 := fun p hp q hq e => by
    have := (M.nw p hp).2
    rw [e, D.here q hq] at this
    cases this
  refine ⟨fun p hp => ?_, fun b o e hn => ?_, fun p hp => ?_, ?_⟩
  · rcases List.mem_append.mp hp with hp | hp
    · refine .inr ?_
      cases e : hb.get? p.1 with
      | none => rfl
      | some o =>
        have := D.keep _ _ e fun q hq => (nn p hp q hq).symm
        rw [(M.nw p hp).2] at this
        cases this
    · exact D.hi p hp
  · exact old _ _ (D.keep b o e fun p hp => hn p (List.mem_append_right _ hp))
  · rcases List.mem_append.mp hp with hp | hp
    · exact (M.nw p hp).1
    · exact old _ _ (D.here p hp)
  · rw [List.map_append]
    refine List.pairwise_append.mpr ⟨M.ord.imp fun h => Nat.ne_of_gt h, D.nd, fun a ha b hb => ?_⟩
    obtain ⟨p, hp, rfl⟩ := List.mem_map.mp ha
    obtain ⟨q, hq, rfl⟩ := List.mem_map.mp hb
    exact nn p hp q hq
/-- the first entry of `a` changed -/
noncomputable def putS (a : Addr) (o' : Obj) : List (Addr × Obj) → List (Addr × Obj)
  | [] => []
  | p :: r => if p.1 = a then (a, o') :: r else p :: putS a o' r
theorem putS_fst (a : Addr) (o' : Obj) : ∀ ds : List (Addr × Obj), (putS a o' ds).map (·.1) = ds.map (·.1)
  | [] => rfl
  | p :: r => by
    unfold putS
    by_cases e : p.1 = a
    · rw [if_pos e]; simp [e]
    · rw [if_neg e]; simp [putS_fst a o' r]
theorem putS_mem {a : Addr} {o' : Obj} : ∀ {ds : List (Addr × Obj)}, (ds.map (·.1)).Pairwise (· ≠ ·) → ∀ p ∈ putS a o' ds, p = (a, o') ∨ (p ∈ ds ∧ p.1 ≠ a)
  | [], _, _, hp => nomatch hp
  | q :: r, nd, p, hp => by
    have nd' := List.pairwise_cons.mp nd
    unfold putS at hp
    by_cases e : q.1 = a
    · rw [if_pos e] at hp
      cases hp with
      | head => exact .inl rfl
      | tail _ hp => exact .inr ⟨.tail _ hp, fun e' => nd'.1 p.1 (List.mem_map_of_mem hp) (e.trans e'.symm)⟩
    · rw [if_neg e] at hp
      cases hp with
      | head => exact .inr ⟨.head _, e⟩
      | tail _ hp => exact (putS_mem nd'.2 p hp).imp id fun x => ⟨.tail _ x.1, x.2⟩
theorem putS_set {a : Addr} {o o' : Obj} : ∀ {ds : List (Addr × Obj)} {i : Nat}, (ds.map (·.1)).Pairwise (· ≠ ·) → ds[i]? = some (a, o) → putS a o' ds = ds.set i (a, o')
  | [], _, _, e => by simp at e
  | p :: r, 0, _, e => by
    have : p = (a, o) := by simpa using e
    subst this
    simp [putS]
  | p :: r, i + 1, nd, e => by
    have nd' := List.pairwise_cons.mp nd
    have e' : r[i]? = some (a, o) := by simpa using e
    have hne : p.1 ≠ a := nd'.1 a (List.mem_map_of_mem (f := (·.1)) (List.mem_of_getElem? e'))
    simp [putS, hne, putS_set (o' := o') nd'.2 e']
theorem S.update (D : S P hb h ds) {a : Addr} {o : Obj} {f : Obj → Obj} (hm : (a, o) ∈ ds) (hf : (f o).isFreed = false) : S P hb (h.update a f) (putS a (f o) ds) := by
  have hs : Heap.SameBut a h (h.update a f) := Heap.SameBut.update ..
  have ge : (h.update a f).get? a = some (f o) := Heap.get?_update_self f (D.here _ hm) hf
  refine ⟨fun p hp => ?_, fun b o' e hn => ?_, fun p hp => ?_, by rw [putS_fst]; exact D.nd⟩
  · have : p.1 ∈ (putS a (f o) ds).map (·.1) := List.mem_map_of_mem hp
    rw [putS_fst] at this
    obtain ⟨q, hq, e⟩ := List.mem_map.mp this
    exact e ▸ D.hi q hq
  · have hn' : ∀ p ∈ ds, p.1 ≠ b := fun p hp hpb => by
      have : p.1 ∈ (putS a (f o) ds).map (·.1) := by rw [putS_fst]; exact List.mem_map_of_mem hp
      obtain ⟨q, hq, e⟩ := List.mem_map.mp this
      exact hn q hq (e.trans hpb)
    exact (hs.2 b (fun e' => hn' _ hm e'.symm)).trans (D.keep b o' e hn')
  · rcases putS_mem D.nd p hp with rfl | ⟨hp, hne⟩
    · exact ge
    · exact (hs.2 p.1 hne).trans (D.here p hp)
end
section
variable {α : Type} {prog : Program} {w : World} {A : Around} {E : Value → Shared → Prop} {s : Shared} {Q : α → Shared → Prop} {P : Addr} {hb : Heap} {ds : List (Addr × Obj)}
theorem n_new {a : Addr} {q : Option Value} {k : Obj → Sem α} {o : Obj} (D : S P hb s.heap ds) (ho : (a, o) ∈ ds) (h : wpAny (model prog w) A (k o) Q E s) : wpAny (model prog w) A (.load a q k) Q E s := X.x_load (D.at ho) h
theorem n_alloc {o : Obj} {k : Addr → Sem α} (D : S P hb s.heap ds) (h : ∀ a h', S P hb h' ((a, o) :: ds) → (∀ p ∈ ds, p.1 ≠ a) → wpAny (model prog w) A (k a) Q E { s with heap := h' }) (hf : o.isFreed = false := by rfl) :
    wpAny (model prog w) A (.alloc o k) Q E s :=
  wpAny_bind (m := alloc o) (f := k) (wpAny_alloc (h _ _ (D.push o hf) (fun p hp => Nat.ne_of_lt (Heap.lt_size (D.here p hp)))))
end
end
section
theorem clear_Cls1 : True := by k_with_none; trivial
open PySem PySem.W PySem.W.X PyProof.Rows
set_option maxRecDepth 100000
set_option maxHeartbeats 8000000
theorem lyne_Cls1_1 : True := by
  k_with "x_close!" => (first | exact hret _ _ (by assumption) | (trace_state; exact hret _ _ (by assumption)))
  trivial
theorem prep {prog : Program} {w : World} {A : Around} {h : Heap} {g : Array GenState} {d : Drawn} {t tk : Nat} {os : OsState} {Q : Option Value → Shared → Prop} {E : Value → Shared → Prop}
  (hret : ∀ a h', Mem h h' [] [(a, ({ cls := .type "builtin_function_or_method", data := .fields #[.builtin "type.__prepare__", .type "type"] } : Obj))] → Q (some (.ref a)) ⟨h', g, d, t, os⟩) :
  wpAny (model prog w) A (getAttrBy? (.type "type") (.str "__prepare__" tk)) Q E ⟨h, g, d, t, os⟩ := by
  x_run
end
section
theorem clear_Cls3 : True := by k_with_none; trivial
open PySem PySem.W PySem.W.X PyProof.Rows
set_option maxRecDepth 100000
set_option maxHeartbeats 8000000
section
variable {prog : Program} {w : World} {A : Around} {E : Value → Shared → Prop} {s : Shared} {Q : Value → Shared → Prop} {P L : Addr} {hb : Heap} {ds : List (Addr × Obj)}
noncomputable abbrev bfn (n : String) (self : Value) : Obj := { cls := .type "builtin_function_or_method", data := .fields #[.builtin n, self] }
noncomputable abbrev dict0 : Obj := { cls := .type "dict", data := .dict #[] }
theorem n_alloc' {α : Type} {Q : α → Shared → Prop} {o : Obj} {k : Addr → Sem α} (D : S P hb s.heap ds) (h : ∀ a h', S P hb h' ((a, o) :: ds) → (∀ b, (∃ o, s.heap.get? b = some o) → b < a) → wpAny (model prog w) A (k a) Q E { s with heap := h' }) (hf : o.isFreed = false) :
    wpAny (model prog w) A (.alloc o k) Q E s :=
  wpAny_bind (m := alloc o) (f := k) (wpAny_alloc (h _ _ (D.push o hf) (fun _ hb => Heap.lt_size hb.choose_spec)))
theorem prep_call {pr : Addr} {nv bt : Value} (D : S P hb s.heap ds) (hm : (pr, bfn "type.__prepare__" (.type "type")) ∈ ds)
    (h : ∀ a h', S P hb h' ((a, dict0) :: ds) → (∀ b, (∃ o, s.heap.get? b = some o) → b < a) → Q (.ref a) { s with heap := h' }) :
    wpAny (model prog w) A (call (.ref pr) [nv, bt] []) Q E s := by
  refine wpAny_call ?_
  refine x_code ?_
  refine x_skim 100 ?_
  conv => arg 3; whnf
  with_reducible refine n_new D hm ?_
  refine x_skim 100 ?_
  conv => arg 3; whnf
  with_reducible refine x_pure ?_
  refine ⟨plainId_quiet (by decide +kernel) _, codeAny_builtin (b := Builtin.«type.__prepare__») (entryFor_of_tree (by kernel_rfl)) ?_⟩
  refine x_skim 100 ?_
  conv => arg 3; whnf
  with_reducible refine n_alloc' D ?_ ?f
  case f => rfl
  intro a h' D' l
  refine x_skim 100 ?_
  conv => arg 3; whnf
  with_reducible refine x_pure ?_
  exact h a h' D' l
end
end
section
theorem clear_Cls2 : True := by k_with_none; trivial
open PySem PySem.W PySem.W.X PyProof.Rows
set_option maxRecDepth 100000
set_option maxHeartbeats 8000000
noncomputable def fdAt (K : Frag) (a : Addr) : Option FuncData := match K.lookup a with | some ⟨_, _, .func fd, _⟩ => some fd | _ => none
/-- the function data of object 21, as the head's own table holds it -/
noncomputable def kFd (P : Params) : FuncData := by
  refine (?f : ∀ b : FuncData, fdAt (hd.heap_1 P) 21 = some b → FuncData) _ rfl
  intro b _
  exact b
noncomputable def kSt (P : Params) : Stmt := match (kFd P).body with | .stmts (st :: _) => st | _ => .Pass ⟨0, 0, 0, 0⟩
noncomputable def kBody (P : Params) : List Stmt := match kSt P with | .ClassDef _ _ _ body _ _ _ _ _ _ _ => body | _ => []
noncomputable def kScope (P : Params) : Scope := match kSt P with | .ClassDef _ _ _ _ _ _ sc _ _ _ _ => sc | _ => { kind := .function, names := [], isGenerator := false, isCoroutine := false }
noncomputable abbrev kEnv (P : Params) (L : Addr) : Env := envOfC "cmp_to_key" (kFd P).scope L 21 (.ref 20)
theorem kScope_kind (P) : (kScope P).kind = .class := by rfl
theorem kScope_names (P) : (kScope P).names.lookup ("mycmp" : Str) = some NameKind.free := by rfl
section
variable {prog : Program} {w : World} {A : Around} {E : Value → Shared → Prop} {s : Shared} {Q : Value → Shared → Prop} {L : Addr} {hb : Heap} {ds : List (Addr × Obj)}
set_option pp.deepTerms false
set_option pp.deepTerms.threshold 6
theorem no_cls (P) : ((kScope P).names.lookup ("__class__" : Str) == some NameKind.cell) = false := by rfl
theorem no_clsd (P) : ((kScope P).names.lookup ("__classdict__" : Str) == some NameKind.cell) = false := by rfl
end
end
section
theorem clear_Cls4 : True := by k_with_none; trivial
open PySem PySem.W PySem.W.X PyProof.Rows
set_option maxRecDepth 100000
set_option maxHeartbeats 8000000
section
variable {prog : Program} {w : World} {A : Around} {E : Value → Shared → Prop} {s : Shared} {Q : Value → Shared → Prop} {L : Addr} {hb : Heap} {ds : List (Addr × Obj)}
set_option pp.deepTerms false
set_option pp.deepTerms.threshold 6
theorem S.updateAt {P : Addr} {h : Heap} {a : Addr} {o : Obj} {f : Obj → Obj} {i : Nat} (D : S P hb h ds) (ho : ds[i]? = some (a, o)) (hf : (f o).isFreed = false) : S P hb (h.update a f) (ds.set i (a, f o)) := by
  have D' := D.update (f := f) (List.mem_of_getElem? ho) hf
  rwa [putS_set D.nd ho] at D'
noncomputable abbrev strTup (vs : List Value) : Obj := { cls := .type "tuple", data := .seq vs.toArray }
noncomputable abbrev codeO (vs : List Value) : Obj := { cls := .type "code", data := .fields vs.toArray }
theorem freeK (P) : (kScope P).freeNames = [("mycmp" : Str)] := by
  have e : (kScope P).names.filter (·.2 == NameKind.free) = [(("mycmp" : Str), NameKind.free)] := by rfl
  unfold Scope.freeNames
  rw [e]
  simp
noncomputable def codeOK (o : Obj) (P : Addr) : Prop := ∃ vs file tf flags tg inF text tt, o.cls = Value.type "code" ∧ o.data = .fields vs ∧ vs[11]? = some (Value.ref P) ∧ vs.getD 11 .none = .ref P ∧ vs.getD 18 .none = .str file tf ∧
    vs.getD 7 .none = .int flags tg ∧ vs.getD 9 .none = .bool inF ∧ vs.getD 10 .none = .int text tt
theorem codeHd_of {h : Heap} {c P : Addr} {o : Obj} (e : h.get? c = some o) (k : codeOK o P) (n : c ≠ P) : CodeHd h c P :=
  k.elim fun vs k => k.elim fun file k => k.elim fun tf k => k.elim fun flags k => k.elim fun tg k => k.elim fun inF k => k.elim fun text k => k.elim fun tt a =>
  ⟨o, vs, file, tf, flags, tg, inF, text, tt, e, a.1, a.2.1, a.2.2.1, a.2.2.2.1, a.2.2.2.2.1, a.2.2.2.2.2.1, a.2.2.2.2.2.2.1, a.2.2.2.2.2.2.2, n⟩
theorem cls_code {fl : Nat} {pos : Pos} {i : Nat} {vs : Array Value} {fT : Tok} {file : Str} {fg tg : Int} {t7 t10 : Tok} (D : S 16 hb s.heap ds) (g20 : hb.get? 20 = some { cls := .type "code", data := .fields vs }) (h16 : ds[i]? = some (16, W.tabObj #[]))
    (v11 : vs.getD 11 .none = .ref 16) (v18 : vs.getD 18 .none = .str file fT) (v7 : vs.getD 7 .none = .int fg t7) (v9 : vs.getD 9 .none = .bool true) (v10 : vs.getD 10 .none = .int tg t10)
    (h : ∀ c' P' T' co h' tk, S 16 hb h' ((c', co) :: (P', W.tabObj #[]) :: (T', strTup [.str "mycmp" (s.toks + 3)]) :: ds.set i (16, W.tabObj #[rawInt pos.line, rawInt pos.col, .ref c'])) → codeOK co P' →
      Q (.ref c') { s with heap := h', toks := tk }) :
    wpAny (model prog w) A (classCode (kEnv w.params L) pos fl "K" "cmp_to_key.<locals>.K" (kScope w.params)) Q E s := by
  unfold classCode codeAt
  rw [if_neg (show ¬ (((kEnv w.params L).code == Value.none) = true) from Bool.false_ne_true)]
  refine wpAny_bind (wpAny_fieldsOf (D.old g20 (by decide)) rfl ?_)
  rw [v11]
  have m16 := List.mem_of_getElem? h16
  refine wpAny_bind (wpAny_fieldsOf (D.at m16) rfl ?_)
  rw [v18, v7, v9, v10]
  rw [show codeAmong pos (#[] : Array Value).toList = none from rfl]
  dsimp only
  rw [freeK]
  unfold newCode
  refine wpAny_bind ?_
  refine wpAny_bind (wpAny_mkText (wpAny_bind (wpAny_mkText (wpAny_bind (wpAny_mkText ?_)))))
  dsimp only
  simp only [List.mapM_cons, List.mapM_nil, bind_assoc, pure_bind]
  refine wpAny_bind (wpAny_mkText ?_)
  refine wpAny_bind (wpAny_newTextTuple ?_)
  dsimp only
  have D1 := D.push (strTup [.str "mycmp" (s.toks + 1 + 1 + 1)]) rfl
  revert D1
  generalize s.heap.push _ = h1
  generalize s.heap.objs.size = T'
  intro D1
  refine wpAny_bind (wpAny_alloc ?_)
  dsimp only
  have D2 := D1.push (W.tabObj #[]) rfl
  revert D2
  generalize h1.push _ = h2
  generalize h1.objs.size = P'
  intro D2
  refine wpAny_bind (wpAny_fresh ?_)
  refine wpAny_bind (wpAny_mkText ?_)
  dsimp only
  unfold newFields
  refine wpAny_newObj_type ?_ (by size_fits)
  dsimp only
  generalize hc : ({ cls := .type "code", dict := none, data := _ } : Obj) = co
  have D3 := D2.push co (by rw [← hc]; rfl)
  revert D3
  generalize h2.push _ = h3
  generalize h2.objs.size = c'
  intro D3
  refine wpAny_bind (wpAny_updateFieldsOfTheText (D3.at (.tail _ (.tail _ (.tail _ m16)))) rfl ?_)
  have D4 := D3.updateAt (i := i + 3) (f := Obj.mapFields fun vs => if (codeAmong pos vs.toList).isSome = true then vs else vs ++ #[rawInt pos.line, rawInt pos.col, Value.ref c']) h16 rfl
  have e : Obj.mapFields (fun vs => if (codeAmong pos vs.toList).isSome = true then vs else vs ++ #[rawInt pos.line, rawInt pos.col, Value.ref c']) (W.tabObj #[]) = W.tabObj #[rawInt pos.line, rawInt pos.col, .ref c'] := rfl
  rw [e] at D4
  have m4 : (16, W.tabObj #[rawInt pos.line, rawInt pos.col, .ref c']) ∈ ((c', co) :: (P', W.tabObj #[]) :: (T', strTup [.str "mycmp" (s.toks + 1 + 1 + 1)]) :: ds).set (i + 3) (16, W.tabObj #[rawInt pos.line, rawInt pos.col, .ref c']) :=
    List.mem_of_getElem? (i := i + 3) (by simp [(List.getElem?_eq_some_iff.mp h16).1])
  refine wpAny_bind (wpAny_fieldsOf (D4.at m4) rfl ?_)
  have ea : codeAmong pos (#[rawInt pos.line, rawInt pos.col, Value.ref c'] : Array Value).toList = some (.ref c') := by simp [codeAmong, rawInt]
  rw [ea]
  refine wpAny_pure ?_
  refine h _ _ _ _ _ _ D4 ?_
  rw [← hc]
  exact ⟨_, _, _, _, _, _, _, _, rfl, rfl, rfl, rfl, rfl, rfl, rfl, rfl⟩
end
end
section
theorem clear_Cls5 : True := by k_with_none; trivial
open PySem PySem.W PySem.W.X PyProof.Rows
set_option maxRecDepth 100000
set_option maxHeartbeats 8000000
section
variable {hb h h' : Heap} {ds : List (Addr × Obj)} {P a : Addr} {o o' : Obj}
theorem S.ext {i : Nat} (D : S P hb h ds) (hx : Heap.ExtBut a h h') (hi : ds[i]? = some (a, o)) (ho : h'.get? a = some o') : S P hb h' (ds.set i (a, o')) := by
  have fst : (ds.set i (a, o')).map (·.1) = ds.map (·.1) := by rw [← putS_set D.nd hi, putS_fst]
  refine ⟨fun p hp => ?_, fun b ob e hn => ?_, fun p hp => ?_, by rw [fst]; exact D.nd⟩
  · have : p.1 ∈ (ds.set i (a, o')).map (·.1) := List.mem_map_of_mem hp
    rw [fst] at this
    obtain ⟨q, hq, e⟩ := List.mem_map.mp this
    exact e ▸ D.hi q hq
  · have hn' : ∀ p ∈ ds, p.1 ≠ b := fun p hp hpb => by
      have : p.1 ∈ (ds.set i (a, o')).map (·.1) := by rw [fst]; exact List.mem_map_of_mem hp
      obtain ⟨q, hq, e⟩ := List.mem_map.mp this
      exact hn q hq (e.trans hpb)
    exact hx b ob (fun e' => hn' _ (List.mem_of_getElem? hi) e'.symm) (D.keep b ob e hn')
  · rw [← putS_set D.nd hi] at hp
    rcases putS_mem D.nd p hp with rfl | ⟨hp, hne⟩
    · exact ho
    · exact hx p.1 p.2 hne (D.here p hp)
theorem S.fresh (D : S P hb h ds) {b : Addr} (hl : h.objs.size ≤ b) : hb.get? b = none ∧ ∀ p ∈ ds, p.1 ≠ b := by
  have n : ∀ p ∈ ds, p.1 ≠ b := fun p hp e => absurd (Heap.lt_size (D.here p hp)) (by rw [e]; exact Nat.not_lt.mpr hl)
  refine ⟨?_, n⟩
  cases e : hb.get? b with
  | none => rfl
  | some ob => exact absurd (Heap.lt_size (D.keep _ _ e n)) (Nat.not_lt.mpr hl)
theorem S.add (D : S P hb h ds) {b : Addr} {ob : Obj} (e : h.get? b = some ob) (h0 : hb.get? b = none) (hn : ∀ p ∈ ds, p.1 ≠ b) : S P hb h ((b, ob) :: ds) := by
  refine ⟨fun p hp => ?_, fun b' ob' e' hn' => D.keep b' ob' e' fun p hp => hn' p (.tail _ hp), fun p hp => ?_, List.Pairwise.cons (fun x hx => ?_) D.nd⟩
  · cases hp with
    | head => exact .inr h0
    | tail _ q => exact D.hi p q
  · cases hp with
    | head => exact e
    | tail _ q => exact D.here p q
  · obtain ⟨p, hp, rfl⟩ := List.mem_map.mp hx
    exact (hn p hp).symm
theorem set_fst {i : Nat} (hi : ds[i]? = some (a, o)) : ∀ p ∈ ds.set i (a, o'), p.1 ∈ ds.map (·.1) := fun p hp => by
  rcases List.mem_or_eq_of_mem_set hp with q | q
  · exact List.mem_map_of_mem q
  · rw [q]; exact List.mem_map_of_mem (f := (·.1)) (List.mem_of_getElem? hi)
end
section
variable {M : Model} {A : Around} {E : Value → Shared → Prop} {s : Shared} {name qual : Str} {params : Arguments} {body : List Stmt} {scope : Scope} {env : Env} {c P P₀ : Addr} {ps : Array Value} {pos : Pos} {firstLine : Nat} {mg : Str → Option Value}
  {clos : List (Str × Addr)} {Q : Value → Shared → Prop} {hb : Heap} {ds : List (Addr × Obj)}
end
end
section
theorem clear_Cls6 : True := by k_with_none; trivial
open PySem PySem.W PySem.W.X PyProof.Rows
set_option maxRecDepth 100000
set_option maxHeartbeats 8000000
section
variable {M : Model} {A : Around} {E : Value → Shared → Prop} {s : Shared} {P a : Addr} {hb : Heap} {ds : List (Addr × Obj)} {Q : Unit → Shared → Prop} {es : List DictEntry} {n i : Nat} {name : Str} {v : Value}
noncomputable abbrev strKs (es : List DictEntry) : Prop := ∀ e ∈ es, ∃ n t, e.key = Value.str n t
theorem strKs_put {hsh : Int} {t : Tok} : ∀ {es : List DictEntry}, strKs es → strKs (putL name hsh (.str name t) v es)
  | [], _ => fun e he => by rw [putL, List.mem_singleton] at he; rw [he]; exact ⟨_, _, rfl⟩
  | e :: r, hk => fun e' he => by
    unfold putL at he
    split at he
    · cases he with
      | head => exact hk e (.head _)
      | tail _ q => exact hk e' (.tail _ q)
    · cases he with
      | head => exact hk e (.head _)
      | tail _ q => exact strKs_put (fun x hx => hk x (.tail _ hx)) e' q
theorem set_ns (D : S P hb s.heap ds) (hi : ds[i]? = some (a, dictOf es n)) (hk : strKs es)
    (h : ∀ hsh h', S P hb h' (ds.set i (a, dictOf (putL name hsh (.str name s.toks) v es) (putN name es n))) → Q () { s with heap := h', toks := s.toks + 1 }) : wpAny M A (nsSet a name v) Q E s := by
  intro Γ p _
  have ho := D.at (List.mem_of_getElem? hi)
  simp only [nsSet, strHash, Sem.wp_bind', Sem.wp_cmd_ask, Sem.wp_pure', Sem.wp_cmd_mkText]
  rw [Sem.wp_loadPart_of M Γ _ p { s with toks := s.toks + 1 } (o := dictOf es n) _ ho]
  have hany : es.toArray.any (·.refKey) = false := by
    rw [Array.any_eq_false']; intro e he; obtain ⟨n, t, h⟩ := hk e (by simpa using he); simp [DictEntry.refKey, h]
  simp only [aRefKeyMayBeTheName_at, hany, Bool.and_false, Bool.false_eq_true, if_false, Sem.wp_cmd_updatePart]
  refine ⟨by rw [ho]; rfl, ?_⟩
  have D' := D.updateAt (f := Obj.putName name (if name.cps.isEmpty = true then 0 else reduceHash (M.w.params.strHash name.cps)) (.str name s.toks) v) hi (by rw [putName_dict]; rfl)
  rw [putName_dict] at D'
  exact h _ _ D'
end
end
section
theorem clear_Cls7 : True := by k_with_none; trivial
open PySem PySem.W PySem.W.X PyProof.Rows
set_option maxRecDepth 100000
set_option maxHeartbeats 8000000
section
variable {M : Model} {A : Around} {E : Value → Shared → Prop} {s : Shared} {P a : Addr} {hb : Heap} {ds : List (Addr × Obj)} {Q : Unit → Shared → Prop} {es : List DictEntry} {n i : Nat} {name : Str} {v : Value} {env : Env}
theorem S.ns {h : Heap} {m : Str → Option Value} (D : S P hb h ds) (hn : hb.Ns a m) (ha : a ≠ P) : h.Ns a m :=
  let ⟨o, es, ep, e, r⟩ := hn; ⟨o, es, ep, D.old e ha, r⟩
theorem ns_of {h : Heap} (e : h.get? a = some (dictOf es n)) (hk : strKs es) : h.Ns a (nsFind es.toArray) := ⟨_, _, _, e, rfl, fun e he => hk e (by simpa using he), fun _ => rfl⟩
theorem store_cls (he : storeName env name v = localSet env name v) (D : S P hb s.heap ds) (hi : ds[i]? = some (env.locals, dictOf es n)) (hk : strKs es)
    (h : ∀ hsh h', S P hb h' (ds.set i (env.locals, dictOf (putL name hsh (.str name s.toks) v es) (putN name es n))) → Q () { s with heap := h', toks := s.toks + 1 }) : wpAny M A (storeName env name v) Q E s := by
  rw [he]
  unfold localSet
  refine wpAny_bind (wpAny_load (D.at (List.mem_of_getElem? hi)) ?_)
  rw [if_pos (show ((dictOf es n).cls == Value.type "dict") = true from rfl)]
  exact set_ns D hi hk h
end
noncomputable abbrev cEnv (P : Params) (nsA c fr L : Addr) : Env :=
  { scope := kScope P, locals := nsA, globals := 3, cells := [(("mycmp" : Str), L + 1)], qual := ("cmp_to_key.<locals>.K" : Str) ++ (".": Str), code := .ref c, frame := some fr, builtins := 0 }
theorem clos_eq (P : Params) (L : Addr) : closureFor (kScope P) (kEnv P L) = pure [(("mycmp" : Str), L + 1)] := by rfl
theorem st_eq {P : Params} {nsA c fr L : Addr} {v : Value} : storeName (cEnv P nsA c fr L) "__module__" v = localSet (cEnv P nsA c fr L) "__module__" v := by rfl
theorem st_eq2 {P : Params} {nsA c fr L : Addr} {v : Value} : storeName (cEnv P nsA c fr L) "__qualname__" v = localSet (cEnv P nsA c fr L) "__qualname__" v := by rfl
theorem st_eq3 {P : Params} {nsA c fr L : Addr} {v : Value} : storeName (cEnv P nsA c fr L) "__firstlineno__" v = localSet (cEnv P nsA c fr L) "__firstlineno__" v := by rfl
theorem st_eq4 {P : Params} {nsA c fr L : Addr} {v : Value} : storeName (cEnv P nsA c fr L) "__static_attributes__" v = localSet (cEnv P nsA c fr L) "__static_attributes__" v := by rfl
theorem st_eq5 {P : Params} {nsA c fr L : Addr} {v : Value} : storeName (cEnv P nsA c fr L) "__slots__" v = localSet (cEnv P nsA c fr L) "__slots__" v := by rfl
theorem st_eq6 {P : Params} {nsA c fr L : Addr} {v : Value} : storeName (cEnv P nsA c fr L) "__lt__" v = localSet (cEnv P nsA c fr L) "__lt__" v := by rfl
theorem kd_nm {P : Params} {nsA c fr L : Addr} : (cEnv P nsA c fr L).kindOf "__name__" = none := by rfl
theorem bk_cls {P : Params} {nsA c fr L : Addr} : (cEnv P nsA c fr L).blockKind = .class := by rfl
theorem an_cls {P : Params} : (kScope P).kind.isAnnotationScope = false := by rfl
section
variable {prog : Program} {w : World} {A : Around} {E : Value → Shared → Prop} {s : Shared} {P : Addr} {hb : Heap} {ds : List (Addr × Obj)} {i n : Nat} {es : List DictEntry} {mg : Str → Option Value} {nm : Value} {Pm : Params} {nsA c fr L : Addr}
theorem load_nm {Q : Value → Shared → Prop} (D : S P hb s.heap ds) (hi : ds[i]? = some (nsA, dictOf es n)) (hk : strKs es) (hf : nsFind es.toArray "__name__" = none) (hg : hb.Ns mainGlobals mg) (hP : mainGlobals ≠ P) (hm : mg "__name__" = some nm) (h : Q nm s) :
    wpAny (model prog w) A (loadName (cEnv Pm nsA c fr L) "__name__") Q E s := by
  have g := D.at (List.mem_of_getElem? hi)
  simp only [loadName, kd_nm, bk_cls, an_cls, Bool.false_and, Bool.false_eq_true, if_false, show (!compilersOwnNames.contains ("__name__" : Str)) = false from rfl, pure_bind]
  refine wpAny_bind ?_
  unfold localGet
  refine wpAny_bind (wpAny_load g ?_)
  rw [if_pos (show ((dictOf es n).cls == Value.type "dict") = true from rfl)]
  refine wpAny_nsGet (ns_of g hk) ?_
  rw [hf]
  dsimp only
  unfold loadGlobal
  refine wpAny_bind (wpAny_nsGet (D.ns hg hP) ?_)
  rw [hm]
  exact wpAny_pure h
end
end
section
theorem clear_Cls9 : True := by k_with_none; trivial
open PySem PySem.W PySem.W.X PyProof.Rows
set_option maxRecDepth 100000
set_option maxHeartbeats 8000000
theorem getP (h : Heap) : h.get? h.objs.size = none := by
  cases e : h.get? h.objs.size with
  | none => rfl
  | some o => exact absurd (Heap.lt_size e) (Nat.lt_irrefl _)
theorem S.oldP {P : Addr} {hb h : Heap} {ds : List (Addr × Obj)} {a : Addr} {o : Obj} (D : S P hb h ds) (hP : hb.get? P = none) (e : hb.get? a = some o) : h.get? a = some o :=
  D.old e (fun z => by rw [z, hP] at e; cases e)
noncomputable abbrev nsK (T : Nat → Tok) (k : Nat → Int) (md : Str) (sl fI fL fG fE fl fg sa : Addr) : List DictEntry :=
  [⟨k 1, .str "__module__" (T 1), .str md (T 2)⟩, ⟨k 2, .str "__qualname__" (T 3), .str "cmp_to_key.<locals>.K" (T 4)⟩, ⟨k 3, .str "__firstlineno__" (T 5), .int 4 (T 6)⟩,
     ⟨k 4, .str "__slots__" (T 7), .ref sl⟩, ⟨k 5, .str "__init__" (T 8), .ref fI⟩, ⟨k 6, .str "__lt__" (T 9), .ref fL⟩, ⟨k 7, .str "__gt__" (T 10), .ref fG⟩, ⟨k 8, .str "__eq__" (T 11), .ref fE⟩, ⟨k 9, .str "__le__" (T 12), .ref fl⟩, ⟨k 10, .str "__ge__" (T 13), .ref fg⟩,
     ⟨k 11, .str "__hash__" (T 14), .none⟩, ⟨k 12, .str "__static_attributes__" (T 15), .ref sa⟩]
noncomputable abbrev nsK2 (T : Nat → Tok) (k : Nat → Int) (md : Str) (sl fI fL fG fE fl fg sa : Addr) : List DictEntry :=
  [⟨k 1, .str "__module__" (T 1), .str md (T 2)⟩, ⟨k 3, .str "__firstlineno__" (T 5), .int 4 (T 6)⟩,
     ⟨k 4, .str "__slots__" (T 7), .ref sl⟩, ⟨k 5, .str "__init__" (T 8), .ref fI⟩, ⟨k 6, .str "__lt__" (T 9), .ref fL⟩, ⟨k 7, .str "__gt__" (T 10), .ref fG⟩, ⟨k 8, .str "__eq__" (T 11), .ref fE⟩, ⟨k 9, .str "__le__" (T 12), .ref fl⟩, ⟨k 10, .str "__ge__" (T 13), .ref fg⟩,
     ⟨k 11, .str "__hash__" (T 14), .none⟩, ⟨k 12, .str "__static_attributes__" (T 15), .ref sa⟩]
theorem nsK_str {T k md sl fI fL fG fE fl fg sa} : strKs (nsK T k md sl fI fL fG fE fl fg sa) := by
  unfold strKs
  repeat (refine List.forall_mem_cons.mpr ⟨⟨_, _, rfl⟩, ?_⟩)
  exact fun _ h => nomatch h
theorem nsK2_str {T k md sl fI fL fG fE fl fg sa} : strKs (nsK2 T k md sl fI fL fG fE fl fg sa) := by
  intro e he
  refine nsK_str (T := T) (k := k) (md := md) (sl := sl) (fI := fI) (fL := fL) (fG := fG) (fE := fE) (fl := fl) (fg := fg) (sa := sa) e ?_
  cases he with
  | head => exact .head _
  | tail _ he => exact .tail _ (.tail _ he)
theorem S.keepAll {P : Addr} {hb h h' : Heap} {ds : List (Addr × Obj)} (D : S P hb h ds) (k : ∀ b o, h.get? b = some o → h'.get? b = some o) : S P hb h' ds :=
  ⟨D.hi, fun b o e hn => k b o (D.keep b o e hn), fun p hp => k _ _ (D.here p hp), D.nd⟩
section
variable {M : Model} {A : Around} {E : Value → Shared → Prop} {h : Heap} {g : Array GenState} {d : Drawn} {t : Nat} {os : OsState} {P a : Addr} {hb : Heap} {ds : List (Addr × Obj)} {o : Obj}
theorem l_old {Q : Obj → Shared → Prop} (D : S P hb h ds) (hP : hb.get? P = none) (ho : hb.get? a = some o) (hq : Q o ⟨h, g, d, t, os⟩) : wpAny M A (load a) Q E ⟨h, g, d, t, os⟩ := wpAny_load (D.oldP hP ho) hq
theorem l_new {Q : Obj → Shared → Prop} (D : S P hb h ds) (ho : (a, o) ∈ ds) (hq : Q o ⟨h, g, d, t, os⟩) : wpAny M A (load a) Q E ⟨h, g, d, t, os⟩ := wpAny_load (D.at ho) hq
theorem lp_old {q : Option Value} {Q : Obj → Shared → Prop} (D : S P hb h ds) (hP : hb.get? P = none) (ho : hb.get? a = some o) (hq : Q o ⟨h, g, d, t, os⟩) : wpAny M A (loadPart a q) Q E ⟨h, g, d, t, os⟩ := wpAny_loadPart (D.oldP hP ho) hq
theorem lp_new {q : Option Value} {Q : Obj → Shared → Prop} (D : S P hb h ds) (ho : (a, o) ∈ ds) (hq : Q o ⟨h, g, d, t, os⟩) : wpAny M A (loadPart a q) Q E ⟨h, g, d, t, os⟩ := wpAny_loadPart (D.at ho) hq
theorem u_new {f : Obj → Obj} {Q : Unit → Shared → Prop} (D : S P hb h ds) (i : Nat) (ho : ds[i]? = some (a, o)) (hq : ∀ h', S P hb h' (ds.set i (a, f o)) → Q () ⟨h', g, d, t, os⟩) (hf : (f o).isFreed = false) : wpAny M A (update a f) Q E ⟨h, g, d, t, os⟩ :=
  wpAny_update (D.at (List.mem_of_getElem? ho)) (hq _ (D.updateAt ho hf))
theorem up_new {q : Option Value} {f : Obj → Obj} {Q : Unit → Shared → Prop} (D : S P hb h ds) (i : Nat) (ho : ds[i]? = some (a, o)) (hq : ∀ h', S P hb h' (ds.set i (a, f o)) → Q () ⟨h', g, d, t, os⟩) (hf : (f o).isFreed = false) : wpAny M A (updatePart a q f) Q E ⟨h, g, d, t, os⟩ :=
  wpAny_updatePart (D.at (List.mem_of_getElem? ho)) (hq _ (D.updateAt ho hf))
theorem al_new {Q : Addr → Shared → Prop} (D : S P hb h ds) (hq : ∀ a h', S P hb h' ((a, o) :: ds) → (∀ b, (∃ o, h.get? b = some o) → b < a) → Q a ⟨h', g, d, t, os⟩) (hf : o.isFreed = false) : wpAny M A (alloc o) Q E ⟨h, g, d, t, os⟩ :=
  wpAny_alloc (hq _ _ (D.push o hf) fun _ hb => Heap.lt_size hb.choose_spec)
theorem ns_new {name : Str} {es : List DictEntry} {n : Nat} {r : Option Value} {Q : Option Value → Shared → Prop} (D : S P hb h ds) (ho : (a, dictOf es n) ∈ ds) (hk : strKs es) (hf : nsFind es.toArray name = r) (hq : Q r ⟨h, g, d, t, os⟩) : wpAny M A (nsGet a name) Q E ⟨h, g, d, t, os⟩ :=
  wpAny_nsGet (ns_of (D.at ho) hk) (by rw [hf]; exact hq)
theorem ni_old {T : String} {b : Bool} {U : String} {Q : Bool → Shared → Prop} (D : S P hb h ds) (hP : hb.get? P = none) (ho : hb.get? a = some o) (hT : o.cls = .type T) (hs : isSubtype (.type T) (.type U) = pure b) (hq : Q b ⟨h, g, d, t, os⟩) : wpAny M A (isInstance (.ref a) (.type U)) Q E ⟨h, g, d, t, os⟩ :=
  wpAny_isInstance (s := ⟨h, g, d, t, os⟩) ⟨_, D.oldP hP ho, hT⟩ hs hq
theorem lb_new {part : Option Value} {Q : Unit → Shared → Prop} (D : S P hb h ds) (hm : (a, o) ∈ ds) (hp : o.data.pastItsLine = none) (hq : Q () ⟨h, g, d, t, os⟩) : wpAny M A (lookBehind a part) Q E ⟨h, g, d, t, os⟩ := wpAny_lookBehind (D.at hm) hp hq
theorem so_old {T : String} {name : Str} {r : Option Value} {Q : Option Value → Shared → Prop} (D : S P hb h ds) (hP : hb.get? P = none) (ho : hb.get? a = some o) (hT : o.cls = .type T) (hl : typeLookup (.type T) name = pure r) (hq : Q r ⟨h, g, d, t, os⟩) : wpAny M A (specialOf (.ref a) name) Q E ⟨h, g, d, t, os⟩ :=
  wpAny_specialOf (s := ⟨h, g, d, t, os⟩) ⟨_, D.oldP hP ho, hT⟩ hl hq
theorem ps_ext : True := trivial
theorem up0 {q : Option Value} {f : Obj → Obj} {Q : Unit → Shared → Prop} (D : S P hb h ((a, o) :: ds)) (hf : (f o).isFreed = false) (hq : ∀ h', S P hb h' ((a, f o) :: ds) → Q () ⟨h', g, d, t, os⟩) : wpAny M A (updatePart a q f) Q E ⟨h, g, d, t, os⟩ := up_new D 0 rfl (fun h' D' => hq h' D') hf
theorem uw0 {f : Obj → Obj} {Q : Unit → Shared → Prop} (D : S P hb h ((a, o) :: ds)) (hf : (f o).isFreed = false) (hq : ∀ h', S P hb h' ((a, f o) :: ds) → Q () ⟨h', g, d, t, os⟩) : wpAny M A (update a f) Q E ⟨h, g, d, t, os⟩ := u_new D 0 rfl (fun h' D' => hq h' D') hf
theorem up1 {p0 : Addr × Obj} {q : Option Value} {f : Obj → Obj} {Q : Unit → Shared → Prop} (D : S P hb h (p0 :: (a, o) :: ds)) (hf : (f o).isFreed = false) (hq : ∀ h', S P hb h' (p0 :: (a, f o) :: ds) → Q () ⟨h', g, d, t, os⟩) : wpAny M A (updatePart a q f) Q E ⟨h, g, d, t, os⟩ := up_new D 1 rfl (fun h' D' => hq h' D') hf
theorem uw1 {p0 : Addr × Obj} {f : Obj → Obj} {Q : Unit → Shared → Prop} (D : S P hb h (p0 :: (a, o) :: ds)) (hf : (f o).isFreed = false) (hq : ∀ h', S P hb h' (p0 :: (a, f o) :: ds) → Q () ⟨h', g, d, t, os⟩) : wpAny M A (update a f) Q E ⟨h, g, d, t, os⟩ := u_new D 1 rfl (fun h' D' => hq h' D') hf
theorem ns2 {p0 p1 : Addr × Obj} {name : Str} {v : Value} {es : List DictEntry} {n : Nat} {Q : Unit → Shared → Prop} (D : S P hb h (p0 :: p1 :: (a, dictOf es n) :: ds)) (hk : strKs es) (hq : ∀ hsh h', S P hb h' (p0 :: p1 :: (a, dictOf (putL name hsh (.str name t) v es) (putN name es n)) :: ds) → Q () ⟨h', g, d, t + 1, os⟩) : wpAny M A (nsSet a name v) Q E ⟨h, g, d, t, os⟩ := set_ns (s := ⟨h, g, d, t, os⟩) (i := 2) D rfl hk (fun hsh h' D' => hq hsh h' D')
end
section
variable {prog : Program} {w : World} {A : Around} {E : Value → Shared → Prop} {h : Heap} {g : Array GenState} {d : Drawn} {t : Nat} {os : OsState} {P a : Addr} {hb : Heap} {ds : List (Addr × Obj)}
theorem col_old {v : Value} {it : Addr} {items : List Value} {n : Nat} {Q : List Value → Shared → Prop} (D : S P hb h ds) (hP : hb.get? P = none) (ho : hb.get? it = some { cls := .type "list", data := .seq items.toArray n })
    (hq : ∀ h', S P hb h' ds → Q items ⟨h', g, d, t, os⟩) (hsz : items.toArray.size ≤ sizeLine) (hv : v = .ref it) : wpAny (model prog w) A (collect v) Q E ⟨h, g, d, t, os⟩ := by
  rw [hv]; exact wpAny_collect_seq (s := ⟨h, g, d, t, os⟩) it (.inl rfl) (D.oldP hP ho) rfl rfl (fun h' k => hq h' (D.keepAll k)) hsz
end
end
section
theorem clear_ClsA : True := by k_with_none; trivial
open PySem PySem.W PySem.W.X PyProof.Rows
set_option maxRecDepth 100000
set_option maxHeartbeats 8000000
set_option profiler true
set_option profiler.threshold 500
set_option pp.deepTerms false
set_option pp.deepTerms.threshold 6
section
variable {prog : Program} {w : World} {A : Around} {E : Value → Shared → Prop} {ds : List (Addr × Obj)} {hb h : Heap} {g : Array GenState} {d : Drawn} {t : Nat} {os : OsState}
theorem lyne_ClsA_1 : True := by
  k_with "x_close!" => (first
  | (with_reducible (first
      | refine wpAny_pure ?_ | refine wpAny_bind ?_ | refine wpAny_holding ?_ | refine wpAny_standAt ?_ | refine wpAny_point ?_ | refine wpAny_rule ?_ | refine wpAny_mkStr' ?_ | refine wpAny_fresh' ?_
      | refine wpAny_of_eq (by assumption) ?_ | refine ni_old (by assumption) (by assumption) (by assumption) rfl (by assumption) ?_
      | refine so_old (by assumption) (by assumption) (by assumption) rfl (by assumption) ?_
      | refine l_old (by assumption) (by assumption) (by assumption) ?_
      | refine lp_old (by assumption) (by assumption) (by assumption) ?_
      | refine l_new (by assumption) (by repeat (first | exact List.Mem.head _ | apply List.Mem.tail)) ?_
      | refine lp_new (by assumption) (by repeat (first | exact List.Mem.head _ | apply List.Mem.tail)) ?_))
  | (with_reducible refine al_new (by assumption) ?_ ?ff; (case ff => kernel_rfl!); intro a h' D' l')
  | (with_reducible refine up0 (by assumption) ?ff ?_; (case ff => kernel_rfl!); intro h' D')
  | (with_reducible refine uw0 (by assumption) ?ff ?_; (case ff => kernel_rfl!); intro h' D')
  | (with_reducible refine up1 (by assumption) ?ff ?_; (case ff => kernel_rfl!); intro h' D')
  | (with_reducible refine uw1 (by assumption) ?ff ?_; (case ff => kernel_rfl!); intro h' D')
  | (with_reducible refine ns2 (by assumption) (by first | exact K1 | exact K2 | exact strKs_put K2 | exact strKs_put (strKs_put K2)) ?_; intro hs h' D')
  | (with_reducible refine wpAny_ite_false ?cc ?_; (case cc => kernel_rfl!))
  | (with_reducible refine wpAny_ite_true ?cc ?_; (case cc => kernel_rfl!))
  | (with_reducible refine col_old (items := [.str "obj" (T 16)]) (by assumption) (by assumption) e3 ?_ ?cc ?cv; (case cc => size_fits); (case cv => kernel_rfl!); intro h' D')
  | (with_reducible refine ns_new (r := none) (by assumption) (by repeat (first | exact List.Mem.head _ | apply List.Mem.tail)) (by first | exact K1 | exact K2 | exact strKs_put K2 | exact strKs_put (strKs_put K2)) ?cc ?_; (case cc => kernel_rfl!))
  | wp_delta
  | (rw [r1]) | (rw [r2]) | (rw [r3])
  | (with_reducible_and_instances (first
      | refine wpAny_pure ?_
      | refine wpAny_bind ?_)))
  trivial
theorem anyM_of {M : Model} {α : Type} {f : α → Sem Bool} {l l' : List α} {Q : Bool → Shared → Prop} {s : Shared} (e : l = l') (h : wpAny M A (List.anyM f l') Q E s) : wpAny M A (List.anyM f l) Q E s := by rw [e]; exact h
theorem q_eq {α : Type} {Q : α → Shared → Prop} {s : Shared} {x y : α} (h : Q x s) (e : y = x) : Q y s := by rw [e]; exact h
theorem sread {P : Addr} {sl sa fI fL fG fE fl fg : Addr} {k : Nat → Int} {T : Nat → Tok} {n2 : Nat} {md : Str}
  (D : S P hb h ds) (hP : hb.get? P = none)
  (e3 : hb.get? sl = some { cls := .type "list", data := .seq #[.str "obj" (T 16)] n2 })
  {Q : Builtin.Slots.Plan → Shared → Prop}
  (hq : ∀ h', S P hb h' ds → Q { names := ["obj"], dict := false, weak := false, inherited := [] } ⟨h', g, d, t, os⟩) :
  wpAny (model prog w) A (Builtin.Slots.read "K" [.type "object"] (nsK T k md sl fI fL fG fE fl fg sa).toArray) Q E ⟨h, g, d, t, os⟩ := by
  have q3 : Builtin.Slots.bestBase [.type "object"] = pure (.type "object") := by kernel_rfl
  have q8 : Builtin.Slots.givesDict (.type "object") = pure false := by kernel_rfl
  have q9 : Builtin.Slots.givesWeak (.type "object") = pure false := by kernel_rfl
  have q10 : Builtin.Slots.varSize (.type "object") = pure false := by kernel_rfl
  have q11 : Builtin.Slots.slotNamesOf (.type "object") = pure [] := by kernel_rfl
  have r1 : Builtin.Slots.isIdentifier "obj" = some true := by kernel_rfl
  have r2 : (nsK T k md sl fI fL fG fE fl fg sa).toArray.find? (·.key.isStr "__slots__") = some ⟨k 4, .str "__slots__" (T 7), .ref sl⟩ := by kernel_rfl
  have r3 : Builtin.Slots.mangle "K" "obj" = "obj" := by kernel_rfl
  unfold Builtin.Slots.read
  repeat x_close
  exact q_eq (hq _ D') (by kernel_rfl!)
theorem sread' {P : Addr} {sl sa fI fL fG fE fl fg : Addr} {k : Nat → Int} {T : Nat → Tok} {n2 : Nat} {md : Str} {nm : Str} {bs : List Value} {es : Array DictEntry}
  (D : S P hb h ds) (hP : hb.get? P = none)
  (e3 : hb.get? sl = some { cls := .type "list", data := .seq #[.str "obj" (T 16)] n2 })
  {Q : Builtin.Slots.Plan → Shared → Prop}
  (hn : nm = "K") (hbs : bs = [.type "object"]) (hes : es = (nsK T k md sl fI fL fG fE fl fg sa).toArray)
  (hq : ∀ h', S P hb h' ds → Q { names := ["obj"], dict := false, weak := false, inherited := [] } ⟨h', g, d, t, os⟩) :
  wpAny (model prog w) A (Builtin.Slots.read nm bs es) Q E ⟨h, g, d, t, os⟩ := by
  subst hn hbs hes
  exact sread D hP e3 hq
end
end
section
theorem clear_ClsB : True := by k_with_none; trivial
open PySem PySem.W PySem.W.X PyProof.Rows
set_option maxRecDepth 100000
set_option maxHeartbeats 8000000
noncomputable abbrev kData (a ns : Addr) : ClassData := { name := "K", bases := [.type "object"], mro := [.ref a, .type "object"], ns, qualname := "cmp_to_key.<locals>.K", hasDict := false, slotNames := ["obj"], hasDel := false }
noncomputable abbrev kSlots (bT : Addr) (tk t4 : Tok) : Array (Option Value) := #[some (.ref bT), none, some (.str "K" tk), some (.str "cmp_to_key.<locals>.K" t4), some (.builtin "object.__new__"), some (.bool false)]
noncomputable abbrev kObj (a ns bT : Addr) (tk t4 : Tok) : Obj := { cls := .type "type", data := .cls (kData a ns), slots := kSlots bT tk t4 }
section
theorem lyne_ClsB_1 : True := by
  k_with "x_close!" => (exact hret _ _ _ (by assumption))
  trivial
theorem sup_call {prog : Program} {w : World} {A : Around} {h : Heap} {g : Array GenState} {d : Drawn} {t tk t4 : Nat} {os : OsState} {Q : Value → Shared → Prop} {E : Value → Shared → Prop} {a ns bT : Addr}
  (e1 : h.get? a = some { cls := .type "type", data := .cls (kData a ns), slots := kSlots bT tk t4 })
  (hret : ∀ b h' t', Mem h h' [] [(b, { cls := .type "super", data := .fields #[.ref a, .ref a, .ref a] })] → Q (.ref b) ⟨h', g, d, t', os⟩) :
  wpAny (model prog w) A (call (.type "super") [.ref a, .ref a] []) Q E ⟨h, g, d, t, os⟩ := by
  x_run
theorem lyne_ClsB_2 : True := by
  k_with "x_close!" => (first | exact hret _ _ _ (by assumption) | exact hret2 _ _ (by assumption) | exact hret2 _ _ (Mem.start _))
  trivial
theorem get_call {prog : Program} {w : World} {A : Around} {h : Heap} {g : Array GenState} {d : Drawn} {t tk t4 : Nat} {os : OsState} {Q : Value → Shared → Prop} {E : Value → Shared → Prop} {a ns bT : Addr}
  (e1 : h.get? a = some { cls := .type "type", data := .cls (kData a ns), slots := kSlots bT tk t4 })
  (g2 : h.get? (nat_lit 2) = some { cls := .none, data := .dict #[] })
  (hret : ∀ b h' t', Mem h h' [] [(b, { cls := .type "builtin_function_or_method", data := .fields #[.builtin "object.__init_subclass__", .ref a] })] → Q (.ref b) ⟨h', g, d, t', os⟩) :
  wpAny (model prog w) A (call (.builtin "classmethod_descriptor.__get__") [.builtin "object.__init_subclass__", .none, .ref a] []) Q E ⟨h, g, d, t, os⟩ := by
  x_run
theorem init_call {prog : Program} {w : World} {A : Around} {h : Heap} {g : Array GenState} {d : Drawn} {t tk t4 : Nat} {os : OsState} {Q : Value → Shared → Prop} {E : Value → Shared → Prop} {a b ns bT : Addr}
  (e1 : h.get? a = some { cls := .type "type", data := .cls (kData a ns), slots := kSlots bT tk t4 })
  (e2 : h.get? b = some { cls := .type "builtin_function_or_method", data := .fields #[.builtin "object.__init_subclass__", .ref a] })
  (g2 : h.get? (nat_lit 2) = some { cls := .none, data := .dict #[] })
  (hret2 : ∀ h' t', Mem h h' [] [] → Q .none ⟨h', g, d, t', os⟩) :
  wpAny (model prog w) A (call (.ref b) [] []) Q E ⟨h, g, d, t, os⟩ := by
  x_run
end
end
section
theorem clear_ClsC : True := by k_with_none; trivial
open PySem PySem.W PySem.W.X PyProof.Rows
set_option maxRecDepth 100000
set_option maxHeartbeats 8000000
set_option pp.deepTerms false
set_option pp.deepTerms.threshold 6
section
variable {prog : Program} {w : World} {A : Around} {E : Value → Shared → Prop} {hb h : Heap} {g : Array GenState} {d : Drawn} {t : Nat} {os : OsState} {ds : List (Addr × Obj)} {P : Addr}
theorem nsC {h : Heap} (e : h.get? 2 = some { cls := .none, data := .dict #[] }) : h.Ns 2 (fun _ => none) := ⟨_, _, _, e, rfl, fun e he => absurd he (by simp), fun _ => rfl⟩
theorem ns2_old {name : Str} {Q : Option Value → Shared → Prop} (D : S P hb h ds) (hP : hb.get? P = none) (g2 : hb.get? (nat_lit 2) = some { cls := .none, data := .dict #[] }) (hq : Q none ⟨h, g, d, t, os⟩) : wpAny (model prog w) A (nsGet cStatics name) Q E ⟨h, g, d, t, os⟩ :=
  wpAny_nsGet (nsC (D.oldP hP g2)) hq
theorem forIn_of {M : Model} {α β : Type} {l l' : List α} {i : β} {f : α → β → Sem (ForInStep β)} {Q : β → Shared → Prop} {s : Shared} (e : l = l') (h : wpAny M A (forIn l' i f) Q E s) : wpAny M A (forIn l i f) Q E s := by rw [e]; exact h
theorem drop_K {a : Addr} : List.drop 1 (List.dropWhile (fun x => x != Value.ref a) [Value.ref a, .type "object"]) = [.type "object"] := by simp [List.dropWhile]
theorem tl_get {M : Model} {T : String} {Q : Option Value → Shared → Prop} {s : Shared} (hT : T = "classmethod_descriptor") (hq : Q (some (.builtin "classmethod_descriptor.__get__")) s) : wpAny M A (typeLookup (.type T) "__get__") Q E s := by
  subst hT
  have e : typeLookup (.type "classmethod_descriptor") "__get__" = pure (some (.builtin "classmethod_descriptor.__get__")) := by rw [typeLookup_type, builtinLookup_eq_fast]; kernel_rfl
  exact wpAny_of_eq e hq
theorem call_of {M : Model} {v : Value} {l l' : List Value} {kw : List (Str × Value)} {Q : Value → Shared → Prop} {s : Shared} (e : l = l') (h : wpAny M A (call v l' kw) Q E s) : wpAny M A (call v l kw) Q E s := by rw [e]; exact h
theorem ifK {a : Addr} : [Value.builtin "object.__init_subclass__", if (Value.ref a == Value.ref a) = true then Value.none else Value.ref a, Value.ref a] = [Value.builtin "object.__init_subclass__", .none, .ref a] := by simp
theorem fld_new {a : Addr} {o : Obj} {vs : Array Value} {i : Nat} {x : Value} {Q : Value → Shared → Prop} (D : S P hb h ds) (hm : (a, o) ∈ ds) (hd : o.data = .fields vs) (hx : vs[i]? = some x) (hq : Q x ⟨h, g, d, t, os⟩) : wpAny (model prog w) A (field (.ref a) i) Q E ⟨h, g, d, t, os⟩ :=
  wpAny_field (D.at hm) hd hx hq
theorem lyne_ClsC_1 : True := by
  k_with "x_close!" => (first
  | (with_reducible (first
      | refine wpAny_pure ?_ | refine wpAny_bind ?_ | refine wpAny_holding ?_ | refine wpAny_standAt ?_ | refine wpAny_point ?_ | refine wpAny_rule ?_ | refine wpAny_mkStr' ?_ | refine wpAny_fresh' ?_
      | refine wpAny_of_eq (by assumption) ?_
      | refine ns2_old (by assumption) (by assumption) g2 ?_
      | refine fld_new (by assumption) (by first | assumption | exact List.mem_cons_self | exact List.mem_cons_of_mem _ (by assumption)) rfl rfl ?_
      | refine l_new (by assumption) (by first | assumption | exact List.mem_cons_self | exact List.mem_cons_of_mem _ (by assumption)) ?_
      | refine lp_new (by assumption) (by first | assumption | exact List.mem_cons_self | exact List.mem_cons_of_mem _ (by assumption)) ?_
      | refine wpAny_attempt ?_))
  | (with_reducible refine wpAny_ite_false ?cc ?_; (case cc => kernel_rfl!))
  | (with_reducible refine wpAny_ite_true ?cc ?_; (case cc => kernel_rfl!))
  | ((with_reducible refine forIn_of (l' := [.type "object"]) ?cc ?_); (case cc => exact drop_K))
  | ((with_reducible refine tl_get ?cc ?_); (case cc => kernel_rfl!))
  | ((with_reducible refine call_of (l' := [Value.builtin "object.__init_subclass__", .none, .ref a]) ?cc ?_); (case cc => exact ifK); refine get_call (D.at hK) (D.oldP hP g2) ?_; intro b h1 t1 M1; have D1 := D.mem M1; clear D)
  | wp_delta
  | (with_reducible_and_instances refine wpAny_pure ?_)
  | (with_reducible_and_instances refine wpAny_bind ?_))
  trivial
theorem sup_get {sp a ns bT : Addr} {tk t4 tn : Tok} {Q : PySem.Fin → Shared → Prop} (D : S P hb h ds) (hP : hb.get? P = none) (g2 : hb.get? (nat_lit 2) = some { cls := .none, data := .dict #[] })
  (hs : (sp, ({ cls := .type "super", data := .fields #[.ref a, .ref a, .ref a] } : Obj)) ∈ ds) (hK : (a, kObj a ns bT tk t4) ∈ ds)
  (hq : ∀ b h' t', S P hb h' ((b, bfn "object.__init_subclass__" (.ref a)) :: ds) → Q (.done (.ret (.ref b))) ⟨h', g, d, t', os⟩) : wpAny (model prog w) A (Builtin.«super.__getattribute__» ⟨[.ref sp, .str "__init_subclass__" tn], []⟩) Q E ⟨h, g, d, t, os⟩ := by
  unfold Builtin.«super.__getattribute__»
  repeat x_close
  exact hq _ _ _ D1
theorem slot_super : Slot "super" "__getattribute__" "super.__getattribute__" :=
  .of (owner := "super") (n := "__getattribute__") (by rw [typeLookup_type, builtinLookup_eq_fast]; kernel_rfl) (by decide +kernel) (by decide +kernel) (by decide +kernel)
    (by first | exact .inl (by decide +kernel) | exact .inr (by decide +kernel)) (by rw [isSubtype_type]; kernel_rfl)
theorem entry_super : entryFor table "super.__getattribute__" = some Builtin.«super.__getattribute__» := entryFor_of_tree (by kernel_rfl)
theorem sup_attr {sp a ns bT : Addr} {tk t4 : Tok} {Q : Value → Shared → Prop} (D : S P hb h ds) (hP : hb.get? P = none) (g2 : hb.get? (nat_lit 2) = some { cls := .none, data := .dict #[] })
  (hs : (sp, ({ cls := .type "super", data := .fields #[.ref a, .ref a, .ref a] } : Obj)) ∈ ds) (hK : (a, kObj a ns bT tk t4) ∈ ds)
  (hq : ∀ b h' t', S P hb h' ((b, bfn "object.__init_subclass__" (.ref a)) :: ds) → Q (.ref b) ⟨h', g, d, t', os⟩) :
  wpAny (model prog w) A (getAttr (.ref sp) "__init_subclass__") Q E ⟨h, g, d, t, os⟩ := by
  have q1 : typeLookup (.type "super") "__getattribute__" = pure (some (.builtin "super.__getattribute__")) := by rw [typeLookup_type, builtinLookup_eq_fast]; kernel_rfl
  have q3 : bindSpecial (.builtin "super.__getattribute__") (.ref sp) = pure (.builtin "super.__getattribute__", [.ref sp]) := slot_super.bind _
  repeat x_close
  refine wpAny_call_entry (rest := [.str "__init_subclass__" t]) slot_super ⟨_, D.at hs, rfl⟩ entry_super ?_ (by kernel_rfl)
  refine sup_get D hP g2 hs hK ?_
  intro b h1 t1 D1
  refine ⟨_, rfl, ?_⟩
  clear D
  repeat x_close
  trace_state
  exact hq _ _ _ D1
end
end
section
theorem clear_ClsF : True := by k_with_none; trivial
open PySem PySem.W PySem.W.X PyProof.Rows
set_option maxRecDepth 100000
set_option maxHeartbeats 8000000
set_option pp.deepTerms false
set_option pp.deepTerms.threshold 6
section
variable {prog : Program} {w : World} {A : Around} {E : Value → Shared → Prop} {hb h : Heap} {g : Array GenState} {d : Drawn} {t : Nat} {os : OsState} {ds : List (Addr × Obj)} {P : Addr}
theorem lyne_ClsF_1 : True := by
  k_with "x_close!" => (first
  | (with_reducible (first
      | refine wpAny_pure ?_ | refine wpAny_bind ?_ | refine wpAny_holding ?_ | refine wpAny_standAt ?_ | refine wpAny_point ?_ | refine wpAny_rule ?_ | refine wpAny_mkStr' ?_ | refine wpAny_fresh' ?_
      | refine wpAny_of_eq (by assumption) ?_
      | refine wpAny_attempt ?_))
  | (with_reducible refine wpAny_ite_false ?cc ?_; (case cc => kernel_rfl!))
  | (with_reducible refine wpAny_ite_true ?cc ?_; (case cc => kernel_rfl!))
  | wp_delta
  | (with_reducible_and_instances refine wpAny_pure ?_)
  | (with_reducible_and_instances refine wpAny_bind ?_))
  trivial
theorem slot_init : Slot "type" "__init__" "type.__init__" :=
  .of (owner := "type") (n := "__init__") (by rw [typeLookup_type, builtinLookup_eq_fast]; kernel_rfl) (by decide +kernel) (by decide +kernel) (by decide +kernel)
    (by first | exact .inl (by decide +kernel) | exact .inr (by decide +kernel)) (by rw [isSubtype_type]; kernel_rfl)
theorem tcall {tk : Nat} {nsA bT : Addr} {Q : Value → Shared → Prop}
  (hn : ∀ A' (Q' : PySem.Fin → Shared → Prop), (∀ a h' t', (∃ o, h'.get? a = some o ∧ o.cls = .type "type") → (Q (.ref a) ⟨h', g, d, t', os⟩) → Q' (.done (.ret (.ref a))) ⟨h', g, d, t', os⟩) → wpAny (model prog w) A' (Builtin.«type.__new__» ⟨[.type "type", .str "K" tk, .ref bT, .ref nsA], []⟩) Q' E ⟨h, g, d, t, os⟩) :
  wpAny (model prog w) A (call (.type "type") [.str "K" tk, .ref bT, .ref nsA] []) Q E ⟨h, g, d, t, os⟩ := by
  have q1 : Bind.madeBy (.type "type") = pure (some "type.__new__") := by kernel_rfl
  have q2 : mroOf (.type "type") = pure [.type "type", .type "object"] := by kernel_rfl
  refine wpAny_call ?_
  refine x_code ?_
  refine x_skim 100 ?_
  conv => arg 3; whnf
  refine x_pure ?_
  refine ⟨by kernel_rfl, codeAny_builtin (b := Builtin.«type.__call__») (entryFor_of_tree (by kernel_rfl)) ?_⟩
  unfold Builtin.«type.__call__»
  repeat x_close
  have ck : checkBuiltinCall "type.__new__" ⟨[.type "type", .str "K" tk, .ref bT, .ref nsA], []⟩ = pure () := by kernel_rfl
  refine wpAny_call (codeAny_call_builtin (b := Builtin.«type.__new__») (by decide +kernel) (entryFor_of_tree (by kernel_rfl)) ?_)
  refine wpAny_of_eq ck ?_
  refine hn _ _ fun a h' t' ho hQ => ?_
  refine wpAny_bind (wpAny_isInstance (s := ⟨h', g, d, t', os⟩) (b := true) ho (by rw [isSubtype_type]; kernel_rfl) ?_)
  refine wpAny_ite_false rfl ?_
  refine wpAny_bind (wpAny_holding ?_)
  refine wpAny_callSpecial?_slot (s := ⟨h', g, d, t', os⟩) ho slot_init ?_
  refine wpAny_call_entry (rest := [.str "K" tk, .ref bT, .ref nsA]) slot_init ho (entryFor_of_tree (b := Builtin.«type.__init__») (by kernel_rfl)) ?_ (by kernel_rfl)
  unfold Builtin.«type.__init__»
  repeat x_close
  refine ⟨_, rfl, ?_⟩
  repeat x_close
  exact hQ
end
end
section
theorem clear_ClsG : True := by k_with_none; trivial
open PySem PySem.W PySem.W.X PyProof.Rows
set_option maxRecDepth 100000
set_option maxHeartbeats 8000000
noncomputable def kDef (P : Params) (i : Nat) : Stmt := (kBody P).getD i (.Pass ⟨0, 0, 0, 0⟩)
noncomputable def dPar : Stmt → Arguments | .FunctionDef _ a _ _ _ _ _ _ _ _ => a | _ => ⟨[], [], none, [], [], none, []⟩
noncomputable def dBody : Stmt → List Stmt | .FunctionDef _ _ b _ _ _ _ _ _ _ => b | _ => []
noncomputable def dScope : Stmt → Scope | .FunctionDef _ _ _ _ _ _ s _ _ _ => s | _ => { kind := .function, names := [], isGenerator := false, isCoroutine := false }
noncomputable abbrev kFn (P : Params) (i : Nat) (name qual : Str) (clos : List (Str × Addr)) (doc nm : Value) (c : Addr) (ctv : Value) : Obj := fnMade name qual (dPar (kDef P i)) (dBody (kDef P i)) (dScope (kDef P i)) clos doc nm c ctv
noncomputable abbrev nsF (T : Nat → Tok) (k : Nat → Int) (md : Str) (sl fI fL fG fE fl fg sa mdA : Addr) (ha hd : Int) (ta td : Tok) : List DictEntry :=
  nsK2 T k md sl fI fL fG fE fl fg sa ++ [⟨ha, .str "obj" ta, .ref mdA⟩, ⟨hd, .str "__doc__" td, .none⟩]
noncomputable abbrev mdObj (a : Addr) (t : Tok) : Obj := { cls := .type "member_descriptor", data := .fields #[.str "obj" t, .ref a, .builtin "proto.slot", .builtin "proto.slot#set", .int 0 0] }
end
section
theorem clear_ClsN : True := by k_with_none; trivial
open PySem PySem.W PySem.W.X PyProof.Rows
set_option maxRecDepth 100000
set_option maxHeartbeats 8000000
set_option pp.deepTerms false
set_option pp.deepTerms.threshold 6
section
variable {prog : Program} {w : World} {A : Around} {E : Value → Shared → Prop} {Q : PySem.Fin → Shared → Prop} {hb h : Heap} {g : Array GenState} {d : Drawn} {t : Nat} {os : OsState}
theorem S.conv {P : Addr} {hb h : Heap} {ds ds' : List (Addr × Obj)} (D : S P hb h ds) (e : ds = ds') : S P hb h ds' := e ▸ D
theorem tnew {P : Addr} {tk : Nat} {nsA bT sl sa fI fL fG fE fl fg : Addr} {k : Nat → Int} {T : Nat → Tok} {n n1 n2 n3 : Nat} {fdI fdL fdG fdE fdl fdg : FuncData} {md : Str}
  (D : S P hb h []) (hP : hb.get? P = none)
  (e1 : hb.get? nsA = some (dictOf (nsK T k md sl fI fL fG fE fl fg sa) n))
  (e2 : hb.get? bT = some { cls := .type "tuple", data := .seq #[.type "object"] n1 })
  (e3 : hb.get? sl = some { cls := .type "list", data := .seq #[.str "obj" (T 16)] n2 })
  (e4 : hb.get? sa = some { cls := .type "tuple", data := .seq #[.str "obj" (T 17)] n3 })
  (eI : hb.get? fI = some { cls := .type "function", data := .func fdI })
  (eL : hb.get? fL = some { cls := .type "function", data := .func fdL })
  (eG : hb.get? fG = some { cls := .type "function", data := .func fdG })
  (eE : hb.get? fE = some { cls := .type "function", data := .func fdE })
  (el : hb.get? fl = some { cls := .type "function", data := .func fdl })
  (eg : hb.get? fg = some { cls := .type "function", data := .func fdg })
  (g2 : hb.get? 2 = some { cls := .none, data := .dict #[] }) (hne : ¬ nsA = sysModules)
  (hq : ∀ K ns mdA h' t' ha hd ta td t5 ds', S P hb h' ds' → (K, kObj K ns bT tk (T 4)) ∈ ds' → (ns, dictOf (nsF T k md sl fI fL fG fE fl fg sa mdA ha hd ta td) 3) ∈ ds' → (mdA, mdObj K t5) ∈ ds' → Q (.done (.ret (.ref K))) ⟨h', g, d, t', os⟩) :
  wpAny (model prog w) A (Builtin.«type.__new__» ⟨[.type "type", .str "K" tk, .ref bT, .ref nsA], []⟩) Q E ⟨h, g, d, t, os⟩ := by
  have s1 : isSubtype (.type "tuple") (.type "tuple") = pure true := by rw [isSubtype_type]; kernel_rfl
  have s2 : isSubtype (.type "dict") (.type "dict") = pure true := by rw [isSubtype_type]; kernel_rfl
  have s3 : isSubtype (.type "type") (.type "type") = pure true := by rw [isSubtype_type]; kernel_rfl
  have q1 : Builtin.extendedBase [.type "object"] = pure (.type "object") := by kernel_rfl
  have q2 : Builtin.notOverATurnedClass [.type "object"] = pure () := by kernel_rfl
  have q3 : Builtin.Slots.bestBase [.type "object"] = pure (.type "object") := by kernel_rfl
  have s4 : isSubtype (.type "object") (.type "object") = pure true := by rw [isSubtype_type]; kernel_rfl
  have q5 : typeLookup (.type "dict") "__iter__" = pure (some (.builtin "dict.__iter__")) := by rw [typeLookup_type, builtinLookup_eq_fast]; kernel_rfl
  have q6 : mroOf (.type "object") = pure [.type "object"] := by kernel_rfl
  have q7 : typeLookup (.type "object") "__weakref__" = pure none := by rw [typeLookup_type, builtinLookup_eq_fast]; kernel_rfl
  have q8 : Builtin.Slots.givesDict (.type "object") = pure false := by kernel_rfl
  have q9 : Builtin.Slots.givesWeak (.type "object") = pure false := by kernel_rfl
  have q10 : Builtin.Slots.varSize (.type "object") = pure false := by kernel_rfl
  have hneD : decide ((nsA == sysModules) = true) = false := by simpa using hne
  have K1 : strKs (nsK T k md sl fI fL fG fE fl fg sa) := nsK_str
  have K2 : strKs (nsK2 T k md sl fI fL fG fE fl fg sa) := nsK2_str
  have dropEq : Obj.dropName "__qualname__" (dictOf (nsK T k md sl fI fL fG fE fl fg sa) 0) = dictOf (nsK2 T k md sl fI fL fG fE fl fg sa) 1 := by kernel_rfl!
  have m1 : typeLookup (.type "type") "mro" = pure (some (.builtin "type.mro")) := by rw [typeLookup_type, builtinLookup_eq_fast]; kernel_rfl
  have m2 : Builtin.linearize [.type "object"] mroOf = pure [.type "object"] := by kernel_rfl
  have m3 : Bind.madeBy (.type "object") = pure (some "object.__new__") := by kernel_rfl
  have z_str : typeLookup (.type "str") "__set_name__" = pure none := by rw [typeLookup_type, builtinLookup_eq_fast]; kernel_rfl
  have z_int : typeLookup (.type "int") "__set_name__" = pure none := by rw [typeLookup_type, builtinLookup_eq_fast]; kernel_rfl
  have z_list : typeLookup (.type "list") "__set_name__" = pure none := by rw [typeLookup_type, builtinLookup_eq_fast]; kernel_rfl
  have z_function : typeLookup (.type "function") "__set_name__" = pure none := by rw [typeLookup_type, builtinLookup_eq_fast]; kernel_rfl
  have z_NoneType : typeLookup (.type "NoneType") "__set_name__" = pure none := by rw [typeLookup_type, builtinLookup_eq_fast]; kernel_rfl
  have z_tuple : typeLookup (.type "tuple") "__set_name__" = pure none := by rw [typeLookup_type, builtinLookup_eq_fast]; kernel_rfl
  have z_member_descriptor : typeLookup (.type "member_descriptor") "__set_name__" = pure none := by rw [typeLookup_type, builtinLookup_eq_fast]; kernel_rfl
  have q4 : typeOf (.type "object") = pure (.type "type") := by kernel_rfl
  unfold Builtin.«type.__new__»
  (with_reducible refine wpAny_bind ?_)
  wp_delta
  (with_reducible refine wpAny_pure ?_)
  (with_reducible refine wpAny_bind ?_)
  (with_reducible refine ni_old (by assumption) (by assumption) (by assumption) rfl (by assumption) ?_)
  (with_reducible refine wpAny_ite_false ?cc ?_; (case cc => kernel_rfl!))
  (with_reducible refine wpAny_bind ?_)
  (with_reducible refine ni_old (by assumption) (by assumption) (by assumption) rfl (by assumption) ?_)
  (with_reducible refine wpAny_ite_false ?cc ?_; (case cc => kernel_rfl!))
  (with_reducible refine wpAny_bind ?_)
  wp_delta
  (with_reducible refine wpAny_bind ?_)
  (with_reducible refine l_old (by assumption) (by assumption) (by assumption) ?_)
  (with_reducible refine wpAny_pure ?_)
  (with_reducible refine wpAny_ite_false ?cc ?_; (case cc => kernel_rfl!))
  (with_reducible refine wpAny_bind ?_)
  wp_delta
  wp_delta
  wp_delta
  wp_delta
  (with_reducible refine wpAny_bind ?_)
  (with_reducible refine wpAny_bind ?_)
  wp_delta
  (with_reducible refine wpAny_pure ?_)
  (with_reducible refine wpAny_ite_false ?cc ?_; (case cc => kernel_rfl!))
  (with_reducible refine wpAny_pure ?_)
  wp_delta
  wp_delta
  (with_reducible refine wpAny_pure ?_)
  (with_reducible refine wpAny_bind ?_)
  wp_delta
  wp_delta
  wp_delta
  wp_delta
  (with_reducible refine wpAny_bind ?_)
  (with_reducible refine wpAny_bind ?_)
  (with_reducible refine wpAny_of_eq (by assumption) ?_)
  (with_reducible refine wpAny_bind ?_)
  (with_reducible refine wpAny_of_eq (by assumption) ?_)
  (with_reducible refine wpAny_ite_true ?cc ?_; (case cc => kernel_rfl!))
  (with_reducible refine wpAny_pure ?_)
  wp_delta
  wp_delta
  (with_reducible refine wpAny_pure ?_)
  (with_reducible refine wpAny_ite_false ?cc ?_; (case cc => kernel_rfl!))
  (with_reducible refine wpAny_bind ?_)
  wp_delta
  (with_reducible refine wpAny_bind ?_)
  wp_delta
  wp_delta
  wp_delta
  wp_delta
  (with_reducible refine wpAny_bind ?_)
  (with_reducible refine wpAny_bind ?_)
  wp_delta
  (with_reducible refine wpAny_pure ?_)
  (with_reducible refine wpAny_ite_true ?cc ?_; (case cc => kernel_rfl!))
  (with_reducible refine wpAny_bind ?_)
  (with_reducible refine wpAny_of_eq (by assumption) ?_)
  (with_reducible refine wpAny_bind ?_)
  wp_delta
  wp_delta
  wp_delta
  wp_delta
  (with_reducible refine wpAny_bind ?_)
  (with_reducible refine wpAny_pure ?_)
  wp_delta
  wp_delta
  (with_reducible refine wpAny_bind ?_)
  (with_reducible refine wpAny_pure ?_)
  wp_delta
  wp_delta
  (with_reducible refine wpAny_pure ?_)
  (with_reducible refine wpAny_pure ?_)
  wp_delta
  wp_delta
  (with_reducible refine wpAny_pure ?_)
  (with_reducible refine wpAny_pure ?_)
  (with_reducible refine wpAny_bind ?_)
  wp_delta
  (with_reducible refine wpAny_bind ?_)
  wp_delta
  wp_delta
  wp_delta
  wp_delta
  (with_reducible refine wpAny_bind ?_)
  wp_delta
  (with_reducible refine wpAny_ite_false ?cc ?_; (case cc => kernel_rfl!))
  (with_reducible refine wpAny_ite_false ?cc ?_; (case cc => kernel_rfl!))
  (with_reducible refine wpAny_ite_false ?cc ?_; (case cc => kernel_rfl!))
  (with_reducible refine wpAny_bind ?_)
  wp_delta
  (with_reducible refine wpAny_bind ?_)
  (with_reducible refine wpAny_of_eq (by assumption) ?_)
  (with_reducible refine wpAny_bind ?_)
  wp_delta
  wp_delta
  wp_delta
  wp_delta
  (with_reducible refine wpAny_bind ?_)
  (with_reducible refine wpAny_bind ?_)
  wp_delta
  (with_reducible refine wpAny_pure ?_)
  (with_reducible refine wpAny_ite_false ?cc ?_; (case cc => kernel_rfl!))
  (with_reducible refine wpAny_ite_true ?cc ?_; (case cc => kernel_rfl!))
  (with_reducible refine wpAny_pure ?_)
  (with_reducible refine wpAny_pure ?_)
  (with_reducible refine wpAny_pure ?_)
  (with_reducible refine wpAny_bind ?_)
  (with_reducible refine wpAny_of_eq (by assumption) ?_)
  (with_reducible refine wpAny_ite_true ?cc ?_; (case cc => kernel_rfl!))
  (with_reducible refine wpAny_pure ?_)
  wp_delta
  wp_delta
  (with_reducible refine wpAny_pure ?_)
  wp_delta
  (with_reducible refine wpAny_bind ?_)
  wp_delta
  wp_delta
  wp_delta
  wp_delta
  (with_reducible refine wpAny_bind ?_)
  (with_reducible refine wpAny_bind ?_)
  wp_delta
  (with_reducible refine wpAny_bind ?_)
  (with_reducible refine wpAny_of_eq (by assumption) ?_)
  (with_reducible refine wpAny_bind ?_)
  wp_delta
  wp_delta
  wp_delta
  wp_delta
  (with_reducible refine wpAny_bind ?_)
  (with_reducible refine wpAny_bind ?_)
  wp_delta
  (with_reducible refine wpAny_pure ?_)
  (with_reducible refine wpAny_ite_false ?cc ?_; (case cc => kernel_rfl!))
  (with_reducible refine wpAny_ite_true ?cc ?_; (case cc => kernel_rfl!))
  (with_reducible refine wpAny_pure ?_)
  (with_reducible refine wpAny_pure ?_)
  (with_reducible refine wpAny_pure ?_)
  (with_reducible refine wpAny_pure ?_)
  wp_delta
  wp_delta
  (with_reducible refine wpAny_pure ?_)
  (with_reducible refine wpAny_pure ?_)
  (with_reducible refine wpAny_ite_false hneD ?_)
  (with_reducible refine wpAny_bind ?_)
  wp_delta
  (with_reducible refine wpAny_bind ?_)
  (with_reducible refine lp_old (by assumption) (by assumption) (by assumption) ?_)
  (with_reducible refine wpAny_pure ?_)
  (with_reducible refine wpAny_bind ?_)
  (with_reducible refine so_old (by assumption) (by assumption) (by assumption) rfl (by assumption) ?_)
  (with_reducible refine wpAny_ite_true ?cc ?_; (case cc => kernel_rfl!))
  (with_reducible refine wpAny_bind ?_)
  (with_reducible refine wpAny_pure ?_)
  (with_reducible refine wpAny_bind ?_)
  (with_reducible refine wpAny_holding ?_)
  (with_reducible refine sread' (T := T) (k := k) (md := md) (sl := sl) (sa := sa) (fI := fI) (fL := fL) (fG := fG) (fE := fE) (fl := fl) (fg := fg) (by assumption) (by assumption) e3 ?hn ?hbs ?hes ?_; (case hn => kernel_rfl!); (case hbs => kernel_rfl!); (case hes => kernel_rfl!); intro h1 D1)
  (with_reducible refine wpAny_bind ?_)
  wp_delta
  (with_reducible refine wpAny_ite_false ?cc ?_; (case cc => kernel_rfl!))
  wp_delta
  wp_delta
  (with_reducible refine wpAny_bind ?_)
  (with_reducible refine al_new (by assumption) ?_ ?ff; (case ff => kernel_rfl!); intro a2 h2 D2 l2; change S P hb h2 ((_, dictOf (nsK T k md sl fI fL fG fE fl fg sa) 0) :: _) at D2)
  (with_reducible refine wpAny_pure ?_)
  (with_reducible refine wpAny_ite_false ?cc ?_; (case cc => kernel_rfl!))
  (with_reducible refine wpAny_bind ?_)
  (with_reducible refine wpAny_ite_false ?cc ?_; (case cc => kernel_rfl!))
  (with_reducible refine wpAny_pure ?_)
  (with_reducible refine wpAny_ite_false ?cc ?_; (case cc => kernel_rfl!))
  (with_reducible refine wpAny_bind ?_)
  (with_reducible refine ns_new (r := some (.str "cmp_to_key.<locals>.K" (T 4))) (by assumption) (by repeat (first | exact List.mem_cons_self | apply List.mem_cons_of_mem)) K1 ?cc ?_; (case cc => kernel_rfl!))
  (with_reducible refine wpAny_bind ?_)
  (with_reducible refine ns_new (r := some (.str "cmp_to_key.<locals>.K" (T 4))) (by assumption) (by repeat (first | exact List.mem_cons_self | apply List.mem_cons_of_mem)) K1 ?cc ?_; (case cc => kernel_rfl!))
  (with_reducible refine wpAny_bind ?_)
  wp_delta
  (with_reducible refine wpAny_pure ?_)
  (with_reducible refine wpAny_bind ?_)
  (with_reducible refine wpAny_pure ?_)
  (with_reducible refine wpAny_bind ?_)
  (with_reducible refine ns_new (r := none) (by assumption) (by repeat (first | exact List.mem_cons_self | apply List.mem_cons_of_mem)) (by first | exact K1 | exact K2 | exact strKs_put K2 | exact strKs_put (strKs_put K2)) ?cc ?_; (case cc => kernel_rfl!))
  (with_reducible refine wpAny_bind ?_)
  (with_reducible refine al_new (by assumption) ?_ ?ff; (case ff => kernel_rfl!); intro a3 h3 D3 l3)
  (with_reducible refine wpAny_ite_true ?cc ?_; (case cc => kernel_rfl!))
  (with_reducible refine wpAny_bind ?_)
  wp_delta
  (with_reducible refine wpAny_ite_false ?cc ?_; (case cc => kernel_rfl!))
  (with_reducible refine up0 (by assumption) ?ff ?_; (case ff => kernel_rfl!); intro h4 D4; (try rw [dropEq] at D4))
  (with_reducible refine wpAny_bind ?_)
  wp_delta
  (with_reducible refine wpAny_ite_false ?cc ?_; (case cc => kernel_rfl!))
  (with_reducible refine up0 (by assumption) ?ff ?_; (case ff => kernel_rfl!); intro h5 D5; (try rw [dropEq] at D5))
  wp_delta
  (with_reducible refine wpAny_bind ?_)
  wp_delta
  (with_reducible refine wpAny_ite_false ?cc ?_; (case cc => kernel_rfl!))
  (with_reducible refine up0 (by assumption) ?ff ?_; (case ff => kernel_rfl!); intro h6 D6; (try rw [dropEq] at D6))
  (with_reducible refine wpAny_bind ?_)
  wp_delta
  (with_reducible refine wpAny_bind ?_)
  (with_reducible refine lp_new (by assumption) (by repeat (first | exact List.mem_cons_self | apply List.mem_cons_of_mem)) ?_)
  (with_reducible refine wpAny_bind ?_)
  wp_delta
  (with_reducible refine wpAny_pure ?_)
  (with_reducible refine wpAny_ite_true ?cc ?_; (case cc => kernel_rfl!))
  (with_reducible refine wpAny_bind ?_)
  (with_reducible refine up1 (by assumption) ?ff ?_; (case ff => kernel_rfl!); intro h7 D7; (try rw [dropEq] at D7))
  (with_reducible refine wpAny_pure ?_)
  (with_reducible refine wpAny_bind ?_)
  (with_reducible refine ns_new (r := none) (by assumption) (by repeat (first | exact List.mem_cons_self | apply List.mem_cons_of_mem)) (by first | exact K1 | exact K2 | exact strKs_put K2 | exact strKs_put (strKs_put K2)) ?cc ?_; (case cc => kernel_rfl!))
  (with_reducible refine wpAny_bind ?_)
  wp_delta
  wp_delta
  wp_delta
  wp_delta
  (with_reducible refine wpAny_bind ?_)
  (with_reducible refine wpAny_bind ?_)
  (with_reducible refine ns_new (r := none) (by assumption) (by repeat (first | exact List.mem_cons_self | apply List.mem_cons_of_mem)) (by first | exact K1 | exact K2 | exact strKs_put K2 | exact strKs_put (strKs_put K2)) ?cc ?_; (case cc => kernel_rfl!))
  (with_reducible refine wpAny_pure ?_)
  wp_delta
  wp_delta
  (with_reducible refine wpAny_bind ?_)
  (with_reducible refine wpAny_bind ?_)
  (with_reducible refine ns_new (r := none) (by assumption) (by repeat (first | exact List.mem_cons_self | apply List.mem_cons_of_mem)) (by first | exact K1 | exact K2 | exact strKs_put K2 | exact strKs_put (strKs_put K2)) ?cc ?_; (case cc => kernel_rfl!))
  (with_reducible refine wpAny_pure ?_)
  wp_delta
  wp_delta
  (with_reducible refine wpAny_pure ?_)
  (with_reducible refine wpAny_bind ?_)
  (with_reducible refine ns_new (r := none) (by assumption) (by repeat (first | exact List.mem_cons_self | apply List.mem_cons_of_mem)) (by first | exact K1 | exact K2 | exact strKs_put K2 | exact strKs_put (strKs_put K2)) ?cc ?_; (case cc => kernel_rfl!))
  (with_reducible refine wpAny_bind ?_)
  (with_reducible refine ns_new (r := none) (by assumption) (by repeat (first | exact List.mem_cons_self | apply List.mem_cons_of_mem)) (by first | exact K1 | exact K2 | exact strKs_put K2 | exact strKs_put (strKs_put K2)) ?cc ?_; (case cc => kernel_rfl!))
  (with_reducible refine wpAny_bind ?_)
  wp_delta
  (with_reducible refine wpAny_bind ?_)
  (with_reducible refine wpAny_of_eq (by assumption) ?_)
  wp_delta
  (with_reducible refine wpAny_pure ?_)
  (with_reducible refine wpAny_bind ?_)
  wp_delta
  (with_reducible refine wpAny_bind ?_)
  wp_delta
  wp_delta
  (with_reducible refine wpAny_bind ?_)
  (with_reducible refine wpAny_of_eq (by assumption) ?_)
  wp_delta
  (with_reducible refine wpAny_pure ?_)
  (with_reducible refine wpAny_bind ?_)
  wp_delta
  wp_delta
  wp_delta
  wp_delta
  (with_reducible refine wpAny_bind ?_)
  (with_reducible refine wpAny_ite_false ?cc ?_; (case cc => kernel_rfl!))
  (with_reducible refine wpAny_pure ?_)
  wp_delta
  wp_delta
  (with_reducible refine wpAny_pure ?_)
  wp_delta
  (with_reducible refine wpAny_pure ?_)
  (with_reducible refine wpAny_bind ?_)
  (with_reducible refine wpAny_pure ?_)
  (with_reducible refine wpAny_bind ?_)
  (with_reducible refine anyM_of (l' := [.type "object"]) ?cc ?_; (case cc => (dsimp only; simp)))
  wp_delta
  (with_reducible refine wpAny_bind ?_)
  (with_reducible refine wpAny_pure ?_)
  wp_delta
  wp_delta
  (with_reducible refine wpAny_pure ?_)
  (with_reducible refine wpAny_bind ?_)
  wp_delta
  (with_reducible refine wpAny_bind ?_)
  (with_reducible refine l_new (by assumption) (by repeat (first | exact List.mem_cons_self | apply List.mem_cons_of_mem)) ?_)
  (with_reducible refine wpAny_bind ?_)
  (with_reducible refine uw0 (by assumption) ?ff ?_; (case ff => kernel_rfl!); intro h8 D8; (try rw [dropEq] at D8))
  (with_reducible refine lb_new (by assumption) (by repeat (first | exact List.mem_cons_self | apply List.mem_cons_of_mem)) ?cc ?_; (case cc => kernel_rfl!))
  (with_reducible refine wpAny_bind ?_)
  (with_reducible refine wpAny_of_eq (by assumption) ?_)
  (with_reducible refine wpAny_bind ?_)
  wp_delta
  (with_reducible refine wpAny_ite_false ?cc ?_; (case cc => kernel_rfl!))
  (with_reducible refine up0 (by assumption) ?ff ?_; (case ff => kernel_rfl!); intro h9 D9; (try rw [dropEq] at D9))
  (with_reducible refine wpAny_bind ?_)
  wp_delta
  (with_reducible refine wpAny_bind ?_)
  wp_delta
  (with_reducible refine wpAny_bind ?_)
  (with_reducible refine lp_new (by assumption) (by repeat (first | exact List.mem_cons_self | apply List.mem_cons_of_mem)) ?_)
  (with_reducible refine wpAny_pure ?_)
  (with_reducible refine wpAny_ite_false ?cc ?_; (case cc => kernel_rfl!))
  (with_reducible refine wpAny_bind ?_)
  ((with_reducible show wpAny _ _ (typeLookup (.ref _) _) _ _ _); (conv => arg 3; unfold typeLookup))
  (with_reducible refine wpAny_bind ?_)
  wp_delta
  (with_reducible refine wpAny_bind ?_)
  wp_delta
  (with_reducible refine wpAny_bind ?_)
  (with_reducible refine l_new (by assumption) (by repeat (first | exact List.mem_cons_self | apply List.mem_cons_of_mem)) ?_)
  wp_delta
  (with_reducible refine wpAny_pure ?_)
  (with_reducible refine wpAny_pure ?_)
  (with_reducible refine wpAny_bind ?_)
  wp_delta
  wp_delta
  wp_delta
  wp_delta
  (with_reducible refine wpAny_bind ?_)
  (with_reducible refine wpAny_bind ?_)
  wp_delta
  (with_reducible refine wpAny_bind ?_)
  wp_delta
  (with_reducible refine wpAny_bind ?_)
  (with_reducible refine l_new (by assumption) (by repeat (first | exact List.mem_cons_self | apply List.mem_cons_of_mem)) ?_)
  wp_delta
  (with_reducible refine wpAny_pure ?_)
  (with_reducible refine ns_new (r := none) (by assumption) (by repeat (first | exact List.mem_cons_self | apply List.mem_cons_of_mem)) (by first | exact K1 | exact K2 | exact strKs_put K2 | exact strKs_put (strKs_put K2)) ?cc ?_; (case cc => kernel_rfl!))
  (with_reducible refine wpAny_pure ?_)
  wp_delta
  wp_delta
  (with_reducible refine wpAny_bind ?_)
  (with_reducible refine wpAny_bind ?_)
  wp_delta
  (with_reducible refine wpAny_pure ?_)
  wp_delta
  (with_reducible refine wpAny_pure ?_)
  (with_reducible refine wpAny_pure ?_)
  (with_reducible refine wpAny_pure ?_)
  (with_reducible refine wpAny_ite_false ?cc ?_; (case cc => kernel_rfl!))
  (with_reducible refine wpAny_pure ?_)
  (with_reducible refine wpAny_bind ?_)
  wp_delta
  (with_reducible refine wpAny_bind ?_)
  wp_delta
  wp_delta
  wp_delta
  wp_delta
  (with_reducible refine wpAny_bind ?_)
  (with_reducible refine wpAny_bind ?_)
  (with_reducible refine ns_new (r := none) (by assumption) (by repeat (first | exact List.mem_cons_self | apply List.mem_cons_of_mem)) (by first | exact K1 | exact K2 | exact strKs_put K2 | exact strKs_put (strKs_put K2)) ?cc ?_; (case cc => kernel_rfl!))
  (with_reducible refine wpAny_ite_true ?cc ?_; (case cc => kernel_rfl!))
  (with_reducible refine wpAny_bind ?_)
  (with_reducible refine wpAny_mkStr' ?_)
  (with_reducible refine wpAny_bind ?_)
  wp_delta
  wp_delta
  (with_reducible refine wpAny_ite_false ?cc ?_; (case cc => kernel_rfl!))
  wp_delta
  wp_delta
  (with_reducible refine wpAny_bind ?_)
  (with_reducible refine al_new (by assumption) ?_ ?ff; (case ff => kernel_rfl!); intro a10 h10 D10 l10)
  (with_reducible refine wpAny_pure ?_)
  (with_reducible refine wpAny_bind ?_)
  wp_delta
  (with_reducible refine wpAny_bind ?_)
  (with_reducible refine lp_new (by assumption) (by repeat (first | exact List.mem_cons_self | apply List.mem_cons_of_mem)) ?_)
  (with_reducible refine wpAny_ite_false ?cc ?_; (case cc => kernel_rfl!))
  (with_reducible refine ns2 (by assumption) (by first | exact K1 | exact K2 | exact strKs_put K2 | exact strKs_put (strKs_put K2)) ?_; intro hs11 h11 D11)
  (with_reducible refine wpAny_pure ?_)
  wp_delta
  wp_delta
  (with_reducible refine wpAny_pure ?_)
  (with_reducible refine wpAny_bind ?_)
  wp_delta
  wp_delta
  wp_delta
  wp_delta
  (with_reducible refine wpAny_bind ?_)
  (with_reducible refine wpAny_bind ?_)
  (with_reducible refine wpAny_of_eq (by assumption) ?_)
  (with_reducible refine wpAny_ite_false ?cc ?_; (case cc => kernel_rfl!))
  (with_reducible refine wpAny_pure ?_)
  wp_delta
  wp_delta
  (with_reducible refine wpAny_pure ?_)
  (with_reducible refine wpAny_ite_false ?cc ?_; (case cc => kernel_rfl!))
  wp_delta
  wp_delta
  (with_reducible refine wpAny_bind ?_)
  (with_reducible refine l_new (by assumption) (by repeat (first | exact List.mem_cons_self | apply List.mem_cons_of_mem)) ?_)
  wp_delta
  (with_reducible refine wpAny_bind ?_)
  (with_reducible refine uw1 (by assumption) ?ff ?_; (case ff => kernel_rfl!); intro h12 D12; (try rw [dropEq] at D12))
  (with_reducible refine lb_new (by assumption) (by repeat (first | exact List.mem_cons_self | apply List.mem_cons_of_mem)) ?cc ?_; (case cc => kernel_rfl!))
  (with_reducible refine wpAny_bind ?_)
  (with_reducible refine wpAny_of_eq (by assumption) ?_)
  (with_reducible refine wpAny_bind ?_)
  wp_delta
  (with_reducible refine wpAny_ite_false ?cc ?_; (case cc => kernel_rfl!))
  (with_reducible refine up1 (by assumption) ?ff ?_; (case ff => kernel_rfl!); intro h13 D13; (try rw [dropEq] at D13))
  (with_reducible refine wpAny_ite_false ?cc ?_; (case cc => kernel_rfl!))
  (with_reducible refine wpAny_ite_false ?cc ?_; (case cc => kernel_rfl!))
  (with_reducible refine wpAny_bind ?_)
  (with_reducible refine ns_new (r := none) (by assumption) (by repeat (first | exact List.mem_cons_self | apply List.mem_cons_of_mem)) (by first | exact K1 | exact K2 | exact strKs_put K2 | exact strKs_put (strKs_put K2)) ?cc ?_; (case cc => kernel_rfl!))
  (with_reducible refine wpAny_ite_true ?cc ?_; (case cc => kernel_rfl!))
  (with_reducible refine wpAny_bind ?_)
  (with_reducible refine ns2 (by assumption) (by first | exact K1 | exact K2 | exact strKs_put K2 | exact strKs_put (strKs_put K2)) ?_; intro hs14 h14 D14)
  (with_reducible refine wpAny_bind ?_)
  (with_reducible refine ns_new (r := some (.ref fE)) (by assumption) (by repeat (first | exact List.mem_cons_self | apply List.mem_cons_of_mem)) (by first | exact K1 | exact K2 | exact strKs_put K2 | exact strKs_put (strKs_put K2)) ?cc ?_; (case cc => kernel_rfl!))
  (with_reducible refine wpAny_ite_true ?cc ?_; (case cc => kernel_rfl!))
  (with_reducible refine wpAny_bind ?_)
  (with_reducible refine ns_new (r := some .none) (by assumption) (by repeat (first | exact List.mem_cons_self | apply List.mem_cons_of_mem)) (by first | exact K1 | exact K2 | exact strKs_put K2 | exact strKs_put (strKs_put K2)) ?cc ?_; (case cc => kernel_rfl!))
  (with_reducible refine wpAny_ite_false ?cc ?_; (case cc => kernel_rfl!))
  (with_reducible refine wpAny_bind ?_)
  wp_delta
  wp_delta
  wp_delta
  wp_delta
  (with_reducible refine wpAny_bind ?_)
  (with_reducible refine wpAny_bind ?_)
  wp_delta
  (with_reducible refine wpAny_ite_true ?cc ?_; (case cc => kernel_rfl!))
  (with_reducible refine wpAny_pure ?_)
  (with_reducible refine wpAny_pure ?_)
  wp_delta
  wp_delta
  (with_reducible refine wpAny_pure ?_)
  (with_reducible refine wpAny_bind ?_)
  (refine wpAny_tryCatch ?_)
  have DC : S P hb h14 [(a10, mdObj a3 t), (a3, kObj a3 a2 bT tk (T 4)), (a2, dictOf (nsF T k md sl fI fL fG fE fl fg sa a10 hs11 hs14 (t + 1) (t + 1 + 1)) 3)] := D14.conv (by kernel_rfl!)
  clear D14 D13 D12 D11 D10 D9 D8 D7 D6 D5 D4 D3 D2 D1
  (with_reducible refine wpAny_holding ?_)
  (with_reducible refine wpAny_bind ?_)
  wp_delta
  (with_reducible refine wpAny_bind ?_)
  (with_reducible refine lp_new (by assumption) (by repeat (first | exact List.mem_cons_self | apply List.mem_cons_of_mem)) ?_)
  (with_reducible refine wpAny_pure ?_)
  (with_reducible refine wpAny_bind ?_)
  wp_delta
  wp_delta
  wp_delta
  wp_delta
  (with_reducible refine wpAny_bind ?_)
  (with_reducible refine wpAny_bind ?_)
  wp_delta
  (with_reducible refine wpAny_pure ?_)
  (with_reducible refine wpAny_ite_false ?cc ?_; (case cc => kernel_rfl!))
  (with_reducible refine wpAny_pure ?_)
  wp_delta
  wp_delta
  (with_reducible refine wpAny_bind ?_)
  (with_reducible refine wpAny_bind ?_)
  wp_delta
  (with_reducible refine wpAny_pure ?_)
  (with_reducible refine wpAny_ite_false ?cc ?_; (case cc => kernel_rfl!))
  (with_reducible refine wpAny_pure ?_)
  wp_delta
  wp_delta
  (with_reducible refine wpAny_bind ?_)
  (with_reducible refine wpAny_bind ?_)
  wp_delta
  (with_reducible refine wpAny_pure ?_)
  (with_reducible refine wpAny_ite_false ?cc ?_; (case cc => kernel_rfl!))
  (with_reducible refine wpAny_pure ?_)
  wp_delta
  wp_delta
  (with_reducible refine wpAny_bind ?_)
  (with_reducible refine wpAny_bind ?_)
  wp_delta
  (with_reducible refine wpAny_pure ?_)
  (with_reducible refine wpAny_ite_false ?cc ?_; (case cc => kernel_rfl!))
  (with_reducible refine wpAny_pure ?_)
  wp_delta
  wp_delta
  (with_reducible refine wpAny_bind ?_)
  (with_reducible refine wpAny_bind ?_)
  wp_delta
  (with_reducible refine wpAny_pure ?_)
  (with_reducible refine wpAny_ite_false ?cc ?_; (case cc => kernel_rfl!))
  (with_reducible refine wpAny_pure ?_)
  wp_delta
  wp_delta
  (with_reducible refine wpAny_bind ?_)
  (with_reducible refine wpAny_bind ?_)
  wp_delta
  (with_reducible refine wpAny_pure ?_)
  (with_reducible refine wpAny_ite_false ?cc ?_; (case cc => kernel_rfl!))
  (with_reducible refine wpAny_pure ?_)
  wp_delta
  wp_delta
  (with_reducible refine wpAny_bind ?_)
  (with_reducible refine wpAny_bind ?_)
  wp_delta
  (with_reducible refine wpAny_pure ?_)
  (with_reducible refine wpAny_ite_false ?cc ?_; (case cc => kernel_rfl!))
  (with_reducible refine wpAny_pure ?_)
  wp_delta
  wp_delta
  (with_reducible refine wpAny_bind ?_)
  (with_reducible refine wpAny_bind ?_)
  wp_delta
  (with_reducible refine wpAny_pure ?_)
  (with_reducible refine wpAny_ite_false ?cc ?_; (case cc => kernel_rfl!))
  (with_reducible refine wpAny_pure ?_)
  wp_delta
  wp_delta
  (with_reducible refine wpAny_bind ?_)
  (with_reducible refine wpAny_bind ?_)
  wp_delta
  (with_reducible refine wpAny_pure ?_)
  (with_reducible refine wpAny_ite_false ?cc ?_; (case cc => kernel_rfl!))
  (with_reducible refine wpAny_pure ?_)
  wp_delta
  wp_delta
  (with_reducible refine wpAny_bind ?_)
  (with_reducible refine wpAny_bind ?_)
  wp_delta
  (with_reducible refine wpAny_pure ?_)
  (with_reducible refine wpAny_ite_false ?cc ?_; (case cc => kernel_rfl!))
  (with_reducible refine wpAny_pure ?_)
  wp_delta
  wp_delta
  (with_reducible refine wpAny_bind ?_)
  (with_reducible refine wpAny_bind ?_)
  wp_delta
  (with_reducible refine wpAny_pure ?_)
  (with_reducible refine wpAny_ite_false ?cc ?_; (case cc => kernel_rfl!))
  (with_reducible refine wpAny_pure ?_)
  wp_delta
  wp_delta
  (with_reducible refine wpAny_bind ?_)
  (with_reducible refine wpAny_bind ?_)
  wp_delta
  (with_reducible refine wpAny_pure ?_)
  (with_reducible refine wpAny_ite_false ?cc ?_; (case cc => kernel_rfl!))
  (with_reducible refine wpAny_pure ?_)
  wp_delta
  wp_delta
  (with_reducible refine wpAny_bind ?_)
  (with_reducible refine wpAny_bind ?_)
  wp_delta
  (with_reducible refine wpAny_pure ?_)
  (with_reducible refine wpAny_ite_false ?cc ?_; (case cc => kernel_rfl!))
  (with_reducible refine wpAny_pure ?_)
  wp_delta
  wp_delta
  (with_reducible refine wpAny_pure ?_)
  (with_reducible refine wpAny_ite_false ?cc ?_; (case cc => kernel_rfl!))
  (with_reducible refine wpAny_bind ?_)
  wp_delta
  (with_reducible refine wpAny_bind ?_)
  (with_reducible refine lp_new (by assumption) (by repeat (first | exact List.mem_cons_self | apply List.mem_cons_of_mem)) ?_)
  (with_reducible refine wpAny_pure ?_)
  (with_reducible refine wpAny_bind ?_)
  wp_delta
  wp_delta
  wp_delta
  wp_delta
  (with_reducible refine wpAny_bind ?_)
  (with_reducible refine wpAny_ite_false ?cc ?_; (case cc => kernel_rfl!))
  (with_reducible refine wpAny_bind ?_)
  wp_delta
  (with_reducible refine wpAny_bind ?_)
  wp_delta
  (with_reducible refine wpAny_pure ?_)
  (with_reducible refine wpAny_of_eq (by assumption) ?_)
  (with_reducible refine wpAny_pure ?_)
  wp_delta
  wp_delta
  (with_reducible refine wpAny_bind ?_)
  (with_reducible refine wpAny_ite_false ?cc ?_; (case cc => kernel_rfl!))
  (with_reducible refine wpAny_bind ?_)
  wp_delta
  (with_reducible refine wpAny_bind ?_)
  wp_delta
  (with_reducible refine wpAny_pure ?_)
  (with_reducible refine wpAny_of_eq (by assumption) ?_)
  (with_reducible refine wpAny_pure ?_)
  wp_delta
  wp_delta
  (with_reducible refine wpAny_bind ?_)
  (with_reducible refine wpAny_ite_false ?cc ?_; (case cc => kernel_rfl!))
  (with_reducible refine wpAny_bind ?_)
  wp_delta
  (with_reducible refine wpAny_bind ?_)
  wp_delta
  (with_reducible refine wpAny_bind ?_)
  (with_reducible refine lp_old (by assumption) (by assumption) (by assumption) ?_)
  (with_reducible refine wpAny_pure ?_)
  (with_reducible refine wpAny_of_eq (by assumption) ?_)
  (with_reducible refine wpAny_pure ?_)
  wp_delta
  wp_delta
  (with_reducible refine wpAny_bind ?_)
  (with_reducible refine wpAny_ite_false ?cc ?_; (case cc => kernel_rfl!))
  (with_reducible refine wpAny_bind ?_)
  wp_delta
  (with_reducible refine wpAny_bind ?_)
  wp_delta
  (with_reducible refine wpAny_bind ?_)
  (with_reducible refine lp_old (by assumption) (by assumption) (by assumption) ?_)
  (with_reducible refine wpAny_pure ?_)
  (with_reducible refine wpAny_of_eq (by assumption) ?_)
  (with_reducible refine wpAny_pure ?_)
  wp_delta
  wp_delta
  (with_reducible refine wpAny_bind ?_)
  (with_reducible refine wpAny_ite_false ?cc ?_; (case cc => kernel_rfl!))
  (with_reducible refine wpAny_bind ?_)
  wp_delta
  (with_reducible refine wpAny_bind ?_)
  wp_delta
  (with_reducible refine wpAny_bind ?_)
  (with_reducible refine lp_old (by assumption) (by assumption) (by assumption) ?_)
  (with_reducible refine wpAny_pure ?_)
  (with_reducible refine wpAny_of_eq (by assumption) ?_)
  (with_reducible refine wpAny_pure ?_)
  wp_delta
  wp_delta
  (with_reducible refine wpAny_bind ?_)
  (with_reducible refine wpAny_ite_false ?cc ?_; (case cc => kernel_rfl!))
  (with_reducible refine wpAny_bind ?_)
  wp_delta
  (with_reducible refine wpAny_bind ?_)
  wp_delta
  (with_reducible refine wpAny_bind ?_)
  (with_reducible refine lp_old (by assumption) (by assumption) (by assumption) ?_)
  (with_reducible refine wpAny_pure ?_)
  (with_reducible refine wpAny_of_eq (by assumption) ?_)
  (with_reducible refine wpAny_pure ?_)
  wp_delta
  wp_delta
  (with_reducible refine wpAny_bind ?_)
  (with_reducible refine wpAny_ite_false ?cc ?_; (case cc => kernel_rfl!))
  (with_reducible refine wpAny_bind ?_)
  wp_delta
  (with_reducible refine wpAny_bind ?_)
  wp_delta
  (with_reducible refine wpAny_bind ?_)
  (with_reducible refine lp_old (by assumption) (by assumption) (by assumption) ?_)
  (with_reducible refine wpAny_pure ?_)
  (with_reducible refine wpAny_of_eq (by assumption) ?_)
  (with_reducible refine wpAny_pure ?_)
  wp_delta
  wp_delta
  (with_reducible refine wpAny_bind ?_)
  (with_reducible refine wpAny_ite_false ?cc ?_; (case cc => kernel_rfl!))
  (with_reducible refine wpAny_bind ?_)
  wp_delta
  (with_reducible refine wpAny_bind ?_)
  wp_delta
  (with_reducible refine wpAny_bind ?_)
  (with_reducible refine lp_old (by assumption) (by assumption) (by assumption) ?_)
  (with_reducible refine wpAny_pure ?_)
  (with_reducible refine wpAny_of_eq (by assumption) ?_)
  (with_reducible refine wpAny_pure ?_)
  wp_delta
  wp_delta
  (with_reducible refine wpAny_bind ?_)
  (with_reducible refine wpAny_ite_false ?cc ?_; (case cc => kernel_rfl!))
  (with_reducible refine wpAny_bind ?_)
  wp_delta
  (with_reducible refine wpAny_bind ?_)
  wp_delta
  (with_reducible refine wpAny_bind ?_)
  (with_reducible refine lp_old (by assumption) (by assumption) (by assumption) ?_)
  (with_reducible refine wpAny_pure ?_)
  (with_reducible refine wpAny_of_eq (by assumption) ?_)
  (with_reducible refine wpAny_pure ?_)
  wp_delta
  wp_delta
  (with_reducible refine wpAny_bind ?_)
  (with_reducible refine wpAny_ite_false ?cc ?_; (case cc => kernel_rfl!))
  (with_reducible refine wpAny_bind ?_)
  wp_delta
  (with_reducible refine wpAny_bind ?_)
  wp_delta
  (with_reducible refine wpAny_pure ?_)
  (with_reducible refine wpAny_of_eq (by assumption) ?_)
  (with_reducible refine wpAny_pure ?_)
  wp_delta
  wp_delta
  (with_reducible refine wpAny_bind ?_)
  (with_reducible refine wpAny_ite_false ?cc ?_; (case cc => kernel_rfl!))
  (with_reducible refine wpAny_bind ?_)
  wp_delta
  (with_reducible refine wpAny_bind ?_)
  wp_delta
  (with_reducible refine wpAny_bind ?_)
  (with_reducible refine lp_old (by assumption) (by assumption) (by assumption) ?_)
  (with_reducible refine wpAny_pure ?_)
  (with_reducible refine wpAny_of_eq (by assumption) ?_)
  (with_reducible refine wpAny_pure ?_)
  wp_delta
  wp_delta
  (with_reducible refine wpAny_bind ?_)
  (with_reducible refine wpAny_ite_false ?cc ?_; (case cc => kernel_rfl!))
  (with_reducible refine wpAny_bind ?_)
  wp_delta
  (with_reducible refine wpAny_bind ?_)
  wp_delta
  (with_reducible refine wpAny_bind ?_)
  (with_reducible refine lp_new (by assumption) (by repeat (first | exact List.mem_cons_self | apply List.mem_cons_of_mem)) ?_)
  (with_reducible refine wpAny_pure ?_)
  (with_reducible refine wpAny_of_eq (by assumption) ?_)
  (with_reducible refine wpAny_pure ?_)
  wp_delta
  wp_delta
  (with_reducible refine wpAny_bind ?_)
  (with_reducible refine wpAny_ite_false ?cc ?_; (case cc => kernel_rfl!))
  (with_reducible refine wpAny_bind ?_)
  wp_delta
  (with_reducible refine wpAny_bind ?_)
  wp_delta
  (with_reducible refine wpAny_pure ?_)
  (with_reducible refine wpAny_of_eq (by assumption) ?_)
  (with_reducible refine wpAny_pure ?_)
  wp_delta
  wp_delta
  (with_reducible refine wpAny_pure ?_)
  (with_reducible refine wpAny_bind ?_)
  refine sup_call (DC.at (.tail _ (.head _))) ?_
  intro sp h7 t7 M7
  have D7 := DC.mem M7
  dsimp only [List.cons_append, List.nil_append] at D7
  clear DC
  refine wpAny_bind (wpAny_holding ?_)
  refine sup_attr D7 hP g2 (.head _) (.tail _ (.tail _ (.head _))) ?_
  intro b h8 t8 D8
  clear D7
  refine wpAny_bind ?_
  refine init_call (D8.at (.tail _ (.tail _ (.tail _ (.head _))))) (D8.at (.head _)) (D8.oldP hP g2) ?_
  intro h9 t9 M9
  have D9 := D8.mem M9
  dsimp only [List.nil_append] at D9
  clear D8
  refine wpAny_pure ?_
  wp_delta
  (with_reducible refine wpAny_pure ?_)
  exact hq _ _ _ _ _ _ _ _ _ _ _ D9 (.tail _ (.tail _ (.tail _ (.head _)))) (.tail _ (.tail _ (.tail _ (.tail _ (.head _))))) (.tail _ (.tail _ (.head _)))
end
end
section
theorem clear_ClsD : True := by k_with_none; trivial
open PySem PySem.W PySem.W.X PyProof.Rows
set_option maxRecDepth 100000
set_option maxHeartbeats 8000000
section
variable {prog : Program} {w : World} {A : Around} {E : Value → Shared → Prop} {s : Shared} {name qual : Str} {params : Arguments} {body : List Stmt} {scope : Scope} {env : Env} {c P P₀ : Addr} {ps : Array Value} {pos : Pos} {firstLine : Nat} {mg : Str → Option Value}
  {clos : List (Str × Addr)} {Q : Value → Shared → Prop} {hb : Heap} {ds : List (Addr × Obj)}
noncomputable def CodeOf (oc : Obj) (qual : Str) : Prop := oc.cls = .type "code" ∧ ∃ vs t, oc.data = .fields vs ∧ vs[1]? = some (.str qual t)
theorem mk_fn2 {i : Nat} (D : S P₀ hb s.heap ds) (hdoc : docOf body = none) (hcl : closureFor scope env = pure clos) (hge0 : env.globals = mainGlobals) (hg : s.heap.Ns mainGlobals mg) (hcode : env.code = .ref c) (C : CodeHd s.heap c P) (hP : ds[i]? = some (P, tabObj ps)) (ht : TriplesOk ps.toList)
    (hnf : codeAmong pos ps.toList = none) (hgP : mainGlobals ≠ P) (hb' : s.heap.BuiltinsAt mg P)
    (h : ∀ F c' oc ctv h' tk, S P₀ hb h' ((F, fnMade name qual params body scope clos .none ((mg "__name__").getD .none) c' ctv) :: (c', oc) :: ds.set i (P, tabObj (ps ++ #[rawInt pos.line, rawInt pos.col, .ref c']))) →
      CodeOf oc qual → Q (.ref F) { s with heap := h', toks := tk }) :
    wpAny (model prog w) A (makeFunction name qual params (.stmts body) scope env [] [] [] pos firstLine) Q E s := by
  obtain ⟨bm, ob, hbm, hne0, _, hneP, hbo, hcls, hdict, hdata⟩ := hb'
  rw [makeFunction_eq]
  simp only [List.zip_nil_right, List.filterMap_nil, List.isEmpty_nil, if_true, pure_bind]
  unfold makeTail
  rw [hcl, hge0]
  refine wpAny_bind (wpAny_pure ?_)
  have gP : s.heap.get? P = some (tabObj ps) := D.at (List.mem_of_getElem? hP)
  have fin : ∀ (h1 : Heap) (t1 : Nat) (ctv : Value), S P₀ hb h1 ds → Heap.ExtBut P s.heap h1 → s.heap.objs.size ≤ h1.objs.size → wpAny (model prog w) A (functionCode env pos firstLine name qual params scope (.stmts body) >>= fun code => builtinsFor mainGlobals env.builtins >>= fun bu => nsGet mainGlobals "__name__" >>= fun nm =>
      newObj (.type "function") (.func { name, qualname := qual, params, body := .stmts body, scope, globals := mainGlobals, closure := clos, closureTuple := ctv, code, builtins := bu, defaults := .none, kwdefaults := .none, annotations := none, pyModule := nm.getD .none, doc := .none })) Q E { s with heap := h1, toks := t1 } := by
    intro h1 t1 ctv D1 hx1 hs1
    have k1 : ∀ b o, s.heap.get? b = some o → b ≠ P → h1.get? b = some o := fun b o e n => hx1 b o n e
    have gP1 : h1.get? P = some (tabObj ps) := D1.at (List.mem_of_getElem? hP)
    have C1 : CodeHd h1 c P := by
      obtain ⟨o, vs, file, tf, flags, tg, inF, text, tt, e0, a1, a2, a3, a4, a5, a6, a7, a8, a9⟩ := C
      exact ⟨o, vs, file, tf, flags, tg, inF, text, tt, k1 _ _ e0 a9, a1, a2, a3, a4, a5, a6, a7, a8, a9⟩
    refine wpAny_bind (wpAny_functionCodeX (s := { s with heap := h1, toks := t1 }) hcode (C1.code gP1 ht) (C1.tab gP1) hnf fun c' h2 t2 hx2 hge hlt _ hrec htb htc => ?_)
    have hg2 : h2.Ns mainGlobals mg := (hg.extBut hx1 hgP).extBut hx2 hgP
    refine wpAny_bind (wpAny_builtinsFor hg2 hbm hne0 (hx2 _ _ hneP (hx1 _ _ hneP hbo)) hcls hdict hdata ?_)
    refine wpAny_bind (wpAny_nsGet hg2 ?_)
    obtain ⟨P', _, _, ⟨⟨oc, vs, g1, g2, g3, _⟩, _⟩⟩ := htc
    obtain ⟨c₂, oc₂, vs₂, t₂, e₂, g₂, d₂, v₂⟩ := hrec
    cases e₂
    have eo : oc₂ = oc := Option.some.inj (g₂.symm.trans g1)
    subst eo
    have D2 := D1.ext hx2 hP htb.2
    have fr := D1.fresh hge
    have D3 := D2.add g1 fr.1 (fun p hp e => by
      obtain ⟨q, hq, e'⟩ := List.mem_map.mp (set_fst hP p hp)
      exact fr.2 q hq (e'.trans e))
    exact wpAny_newObj_type (h _ _ _ ctv _ t2 (D3.push _ rfl) ⟨g2, vs₂, t₂, d₂, v₂⟩) (by size_fits)
  cases clos with
  | nil =>
    simp only [List.isEmpty_nil, if_true, hdoc, pure_bind]
    exact fin s.heap s.toks .none D (fun b o _ e => e) (Nat.le_refl _)
  | cons q r =>
    simp only [List.isEmpty_cons, Bool.false_eq_true, if_false, hdoc, pure_bind]
    refine wpAny_bind (wpAny_newTextTuple ?_)
    have D1 := D.push (strTup (((q :: r).mergeSort fun a b => a.1.cps.toList ≤ b.1.cps.toList).map (.ref ·.2))) rfl
    exact fin _ _ _ ⟨fun p hp => D1.hi p (.tail _ hp), fun b o e hn => Heap.get?_push_of_some _ (D.keep b o e hn), fun p hp => D1.here p (.tail _ hp), D.nd⟩ (fun b o _ e => Heap.get?_push_of_some _ e) (by rw [Heap.size_push]; omega)
end
section
variable {prog : Program} {w : World} {A : Around} {E : Value → Shared → Prop} {s : Shared} {name qual : Str} {params : Arguments} {body : List Stmt} {scope : Scope} {env : Env} {c P P₀ : Addr} {ps : Array Value} {pos : Pos} {mg : Str → Option Value}
  {clos : List (Str × Addr)} {Q : Flow → Shared → Prop} {hb : Heap} {ds : List (Addr × Obj)} {es : List DictEntry} {n : Nat} {oc : Obj}
theorem def_step {i j k : Nat} (D : S P₀ hb s.heap ds) (hdoc : docOf body = none) (hq0 : qualnameIn env name name = qual) (hd : defaultsOf params env = ([], [])) (ha : annTrees params none env = [])
    (hcl : closureFor scope env = pure clos) (hge0 : env.globals = mainGlobals) (hg : hb.Ns mainGlobals mg) (hgP0 : mainGlobals ≠ P₀) (hcode : env.code = .ref c)
    (hoc : ds[k]? = some (c, oc)) (okc : codeOK oc P) (hcP : c ≠ P) (hP : ds[i]? = some (P, tabObj ps)) (ht : TriplesOk ps.toList)
    (hnf : codeAmong pos ps.toList = none) (hgP : mainGlobals ≠ P) (hb' : s.heap.BuiltinsAt mg P)
    (hj : ds[j]? = some (env.locals, dictOf es n)) (hij : i ≠ j) (hk : strKs es) (hst : ∀ v, storeName env name v = localSet env name v)
    (h : ∀ F c' oc ctv hsh tk0 h' tk, S P₀ hb h' ((F, fnMade name qual params body scope clos .none ((mg "__name__").getD .none) c' ctv) :: (c', oc) :: (ds.set i (P, tabObj (ps ++ #[rawInt pos.line, rawInt pos.col, .ref c']))).set j (env.locals, dictOf (putL name hsh (.str name tk0) (.ref F) es) (putN name es n))) →
      CodeOf oc qual → Q .next { s with heap := h', toks := tk }) :
    wpAny (model prog w) A (exec (.FunctionDef name params body [] none [] scope none name pos) env) Q E s := by
  rw [exec_def, hq0, hd, ha]
  refine wpAny_bind (wpAny_standAt (wpAny_bind (wpAny_holding ?_)))
  refine wpAny_bind (wpAny_pure ?_)
  refine wpAny_bind (wpAny_holding (wpAny_pure ?_))
  refine wpAny_holding ?_
  refine wpAny_bind (wpAny_pure ?_)
  refine mk_fn2 (i := i) D hdoc hcl hge0 (D.ns hg hgP0) hcode (codeHd_of (D.at (List.mem_of_getElem? hoc)) okc hcP) hP ht hnf hgP hb' fun F c' oc' ctv h' tk D' e1 => ?_
  refine wpAny_bind (wpAny_standAt (wpAny_bind (wpAny_bindName ?_)))
  have hj' : ((F, fnMade name qual params body scope clos .none ((mg "__name__").getD .none) c' ctv) :: (c', oc') :: ds.set i (P, tabObj (ps ++ #[rawInt pos.line, rawInt pos.col, .ref c'])))[j + 2]? = some (env.locals, dictOf es n) := by
    show (ds.set i _)[j]? = _
    rw [List.getElem?_set_ne hij, hj]
  refine store_cls (hst _) D' hj' hk fun hsh h2 D2 => wpAny_pure ?_
  exact h _ _ _ _ _ _ _ _ D2 e1
end
end
section
theorem clear_Cls10 : True := by k_with_none; trivial
open PySem PySem.W PySem.W.X PyProof.Rows
set_option maxRecDepth 100000
set_option maxHeartbeats 8000000
set_option pp.deepTerms false
set_option pp.deepTerms.threshold 5
section
variable {prog : Program} {w : World} {A : Around} {E : Value → Shared → Prop} {Q : Value → Shared → Prop} {L : Addr} {hb h : Heap} {g : Array GenState} {d : Drawn} {t : Nat} {os : OsState}
theorem S.more {P P2 : Addr} {hb h h' : Heap} {ds ds2 : List (Addr × Obj)} (D : S P hb h ds) (hP2 : h.get? P2 = none) (D2 : S P2 h h' ds2) : S P hb h' (ds2 ++ ds) := by
  have nn : ∀ p ∈ ds2, h.get? p.1 = none := fun p hp => (D2.hi p hp).elim (fun e => by rw [e]; exact hP2) id
  have ne : ∀ p ∈ ds2, ∀ b o, h.get? b = some o → p.1 ≠ b := fun p hp b o e z => by rw [← z, nn p hp] at e; cases e
  refine ⟨fun p hp => ?_, fun b o e hn => ?_, fun p hp => ?_, ?_⟩
  · rcases List.mem_append.mp hp with hp | hp
    · refine .inr ?_
      cases e : hb.get? p.1 with
      | none => rfl
      | some o =>
        by_cases hx : ∃ q ∈ ds, q.1 = p.1
        · obtain ⟨q, hq, e'⟩ := hx
          exact absurd e'.symm (ne p hp _ _ (D.here q hq))
        · exact absurd rfl (ne p hp _ _ (D.keep _ _ e fun q hq e' => hx ⟨q, hq, e'⟩))
    · exact D.hi p hp
  · have e1 := D.keep b o e fun p hp => hn p (List.mem_append_right _ hp)
    exact D2.keep b o e1 fun p hp => ne p hp b o e1
  · rcases List.mem_append.mp hp with hp | hp
    · exact D2.here p hp
    · exact D2.keep _ _ (D.here p hp) fun q hq => ne q hq _ _ (D.here p hp)
  · rw [List.map_append]
    refine List.pairwise_append.mpr ⟨D2.nd, D.nd, fun a ha b hb => ?_⟩
    obtain ⟨p, hp, rfl⟩ := List.mem_map.mp ha
    obtain ⟨q, hq, rfl⟩ := List.mem_map.mp hb
    exact ne p hp _ _ (D.here q hq)
noncomputable def KMade (Pm : Params) (L K : Addr) (ds : List (Addr × Obj)) : Prop :=
  ∃ (ns bT mdA sl F0 F1 F2 F3 F4 F5 sa c0 c1 : Addr) (T : Nat → Tok) (k : Nat → Int) (md : Str) (ha hd : Int) (ta td t5 tk : Tok) (oc0 oc1 : Obj) (nm ctv0 ctv1 : Value),
    (K, kObj K ns bT tk (T 4)) ∈ ds ∧ (ns, dictOf (nsF T k md sl F0 F1 F2 F3 F4 F5 sa mdA ha hd ta td) 3) ∈ ds ∧ (mdA, mdObj K t5) ∈ ds ∧
    (F0, kFn Pm 2 "__init__" "cmp_to_key.<locals>.K.__init__" [] .none nm c0 ctv0) ∈ ds ∧ (c0, oc0) ∈ ds ∧ CodeOf oc0 "cmp_to_key.<locals>.K.__init__" ∧
    (F1, kFn Pm 3 "__lt__" "cmp_to_key.<locals>.K.__lt__" [(("mycmp" : Str), L + 1)] .none nm c1 ctv1) ∈ ds ∧ (c1, oc1) ∈ ds ∧ CodeOf oc1 "cmp_to_key.<locals>.K.__lt__"
theorem ite_fR.{u} {α : Sort u} (a b : α) : (if false = true then a else b) = b := rfl
theorem ite_tR.{u} {α : Sort u} (a b : α) : (if true = true then a else b) = a := rfl
theorem ite_clsR.{u} {α : Sort u} (P : Params) (a b : α) : (if ((kScope P).names.lookup ("__class__" : Str) == some NameKind.cell) = true then a else b) = b := rfl
theorem ite_clsdR.{u} {α : Sort u} (P : Params) (a b : α) : (if ((kScope P).names.lookup ("__classdict__" : Str) == some NameKind.cell) = true then a else b) = b := rfl
theorem pb_R {α β : Type} (a : α) (f : α → Sem β) : (pure a >>= f) = f a := rfl
theorem wpAny_frz0 {α : Type} {M : Model} {A : Around} {t : Sem α} {Q : α → Shared → Prop} {E : Value → Shared → Prop} {s : Shared} (h : ∀ (K : α → Shared → Prop) (J : Value → Shared → Prop), (∀ v s', Q v s' → K v s') → wpAny M A t K J s) : wpAny M A t Q E s := h Q E fun _ _ q => q
theorem gen_toks {P : Nat → Prop} (t : Nat) (h : ∀ t, P t) : P t := h t
theorem k_build {pos : Pos} {o3 : Obj} (D : S 16 hb h [(16, W.tabObj #[])]) (g3 : hb.get? 3 = some o3)
    {vs : Array Value} {fT : Tok} {file : Str} {fg tg : Int} {t7 t10 : Tok} (g20 : hb.get? 20 = some { cls := .type "code", data := .fields vs })
    (v11 : vs.getD 11 .none = .ref 16) (v18 : vs.getD 18 .none = .str file fT) (v7 : vs.getD 7 .none = .int fg t7) (v9 : vs.getD 9 .none = .bool true) (v10 : vs.getD 10 .none = .int tg t10)
    {mg : Str → Option Value} {nm : Value} {sl4 : Array (Option Value)} (hg : hb.Ns mainGlobals mg) (hbm : mg "__builtins__" = some (.ref 4)) (g4 : hb.get? 4 = some ⟨.type "module", some 0, .plain, sl4⟩) (hnm : mg "__name__" = some nm) (hl : hb.NoLimit) (hdp : A.depth < recursionLimit) (g2 : hb.get? (nat_lit 2) = some { cls := .none, data := .dict #[] })
    (hret : ∀ K ds h' t', S 16 hb h' ds → KMade w.params L K ds → (∃ ps, (16, W.tabObj ps) ∈ ds) → Q (.ref K) ⟨h', g, d, t', os⟩) :
    wpAny (model prog w) A (buildClass "K" "cmp_to_key.<locals>.K" [.type "object"] [] (kBody w.params) (kScope w.params) ["obj"] 4 (kEnv w.params L) pos none) Q E ⟨h, g, d, t, os⟩ := by
  have n3 : mainGlobals ≠ 16 := by decide
  unfold buildClass
  refine wpAny_bind (wpAny_newTuple ?_)
  have e1 : isType (.type "object") = pure true := by kernel_rfl
  have e2 : isType (.type "type") = pure true := by kernel_rfl
  have e3 : typeOf (.type "object") = pure (.type "type") := by kernel_rfl
  have e4 : isSubtype (.type "type") (.type "type") = pure true := by rw [isSubtype_type]; kernel_rfl
  dsimp only [List.lookup_nil, ↓ite_clsR, ↓ite_clsdR, ite_fR, ite_tR, List.filter_nil, pb_R]
  refine wpAny_bind (wpAny_of_eq (a := ([Value.type "object"], false)) (by simp only [List.forIn_cons, List.forIn_nil, e1, pure_bind, if_true, List.nil_append, List.length_cons, List.length_nil, Nat.zero_add, show ¬ (1 > 2 ^ 20) by decide, if_false]) ?_)
  dsimp only [ite_fR, ite_tR]
  refine wpAny_bind (wpAny_of_eq e3 ?_)
  refine wpAny_bind (wpAny_of_eq e2 ?_)
  refine wpAny_ite_true rfl ?_
  refine wpAny_bind (wpAny_of_eq (a := Value.type "type") (by simp only [List.forIn_cons, List.forIn_nil, e3, e4, pure_bind, if_true]) ?_)
  have D1 := D.push ({ cls := .type "tuple", data := .seq [Value.type "object"].toArray } : Obj) rfl
  revert D1
  generalize h.push _ = h1
  generalize h.objs.size = bT
  intro D1
  refine wpAny_bind (wpAny_mkText ?_)
  refine wpAny_holding ?_
  refine wpAny_bind (wpAny_bind (wpAny_mkText (prep fun pr h2 M2 => ?_)))
  have D2 := D1.mem M2
  dsimp only [List.cons_append, List.nil_append] at D2
  clear M2
  refine wpAny_bind (prep_call D2 (.head _) fun nsA h3 D3 l3 => ?_)
  have l3' : 3 < nsA := l3 3 ⟨_, D2.old g3 (by decide)⟩
  dsimp only
  have e5 : notTheModulesDict "class:the-namespace-that-__prepare__-gave" nsA = pure () := by
    unfold notTheModulesDict
    rw [if_neg (by have : nsA ≠ sysModules := fun e => absurd l3' (by rw [e]; decide); simpa using this)]
  rw [e5, pure_bind]
  have e6 : typeLookup (.type "dict") "__getitem__" = pure (some (.builtin "dict.__getitem__")) := by rw [typeLookup_type, builtinLookup_eq_fast]; kernel_rfl
  refine wpAny_bind (wpAny_specialOf ⟨_, D3.at (.head _), rfl⟩ e6 ?_)
  dsimp only [Option.isNone]
  simp only [if_false, Bool.false_eq_true]
  refine wpAny_holding ?_
  refine wpAny_bind (cls_code (i := 3) D3 g20 rfl v11 v18 v7 v9 v10 fun c' P' T' co h4 tkc D4 ok4 => ?_)
  dsimp only [List.set] at D4
  refine wpAny_bind (wpAny_builtinsFor (D4.ns hg n3) hbm (by decide) (D4.old g4 (by decide)) rfl rfl rfl ?_)
  unfold newBodyFrame
  refine wpAny_bind (wpAny_bind (wpAny_nsGet (D4.ns hg n3) ?_))
  rw [hnm]
  refine wpAny_alloc ?_
  generalize hfo : ({ cls := .type "frame", slots := _ } : Obj) = fo
  have D5 := D4.push fo (by rw [← hfo]; rfl)
  revert D5
  dsimp only
  generalize h4.push _ = h5
  generalize h4.objs.size = fr
  intro D5
  rw [clos_eq, pure_bind]
  refine wpAny_holding ?_
  have nl : h5.NoLimit := let ⟨mc, x, y⟩ := hl; ⟨mc, D5.ns x (by decide), y⟩
  refine wpAny_bind (wpAny_enterFrame nl hdp ?_)
  refine wpAny_bind (wpAny_onRaise ?_)
  refine wpAny_bind (load_nm (i := 4) (es := []) (n := 0) (mg := mg) D5 rfl (fun _ h => nomatch h) rfl hg n3 hnm ?_)
  refine wpAny_bind (store_cls (env := cEnv w.params nsA c' fr L) (i := 4) (es := []) (n := 0) st_eq D5 rfl (fun _ h => nomatch h) fun hsA1 h6 D6 => ?_)
  dsimp only [List.set] at D6
  refine wpAny_bind (wpAny_mkText ?_)
  refine wpAny_bind (store_cls (env := cEnv w.params nsA c' fr L) (i := 4) st_eq2 D6 rfl (strKs_put fun _ h => nomatch h) fun hsA2 h7 D7 => ?_)
  dsimp only [List.set] at D7
  refine wpAny_bind (wpAny_mkInt ?_)
  refine wpAny_bind (store_cls (env := cEnv w.params nsA c' fr L) (i := 4) st_eq3 D7 rfl (strKs_put (strKs_put fun _ h => nomatch h)) fun hsA3 h8 D8 => ?_)
  dsimp only [List.set] at D8
  refine wpAny_pure ?_
  refine wpAny_bind (wpAny_run ?_)
  refine codeAny_body rfl rfl ?_
  dsimp only
  rw [show (({ scope := kScope w.params, locals := nsA, globals := (kEnv w.params L).globals, cells := (Option.map (fun x => (("__class__" : Str), x)) (none : Option Addr)).toList ++ (Option.map (fun x => (("__classdict__" : Str), x)) (none : Option Addr)).toList ++ [(("mycmp" : Str), L + 1)], qual := ("cmp_to_key.<locals>.K" : Str) ++ ("." : Str), code := .ref c', frame := some fr, builtins := builtinsNs } : Env)) = cEnv w.params nsA c' fr L from rfl]
  generalize ((A.mark none).deeper (cEnv w.params nsA c' fr L)) = A'
  refine wpAny_frz0 ?_
  intro KQ KE hKQ
  refine gen_toks (P := fun t => wpAny _ _ _ _ _ ⟨h8, g, d, t, os⟩) _ ?_
  intro t0
  have nd8 := D8.nd
  simp only [List.map_cons, List.map_nil, List.pairwise_cons, List.mem_cons, List.not_mem_nil, or_false] at nd8
  have ncP : c' ≠ P' := nd8.2.1 _ (.inl rfl)
  have nP16 : P' ≠ 16 := nd8.2.2.1 _ (by simp)
  have nPo : hb.get? P' = none := (D8.hi _ (.tail _ (.tail _ (.head _)))).resolve_left nP16
  have n3 : 3 ≠ P' := fun e => by rw [← e, g3] at nPo; cases nPo
  have n4 : 4 ≠ P' := fun e => by rw [← e, g4] at nPo; cases nPo
  have n16 : mainGlobals ≠ 16 := by decide
  have bat : ∀ {h' ds}, S 16 hb h' ds → h'.BuiltinsAt mg P' := fun D' => ⟨4, _, hbm, by decide, by decide, n4, D'.old g4 (by decide), rfl, rfl, rfl⟩
  have hst9 : ∀ v, storeName (cEnv w.params nsA c' fr L) "__hash__" v = localSet (cEnv w.params nsA c' fr L) "__hash__" v := fun v => rfl
  conv => arg 3; arg 1; whnf
  refine wpAny_execs_cons ?_
  refine wpAny_Assign_Name (wpAny_Constant_str ?_)
  refine store_cls (i := 4) st_eq D8 rfl (strKs_put (strKs_put (strKs_put fun _ h => nomatch h))) fun hs1 x1 B1 => ?_
  dsimp only [List.set] at B1
  dsimp only
  conv => arg 3; arg 1; whnf
  refine wpAny_execs_cons ?_
  refine wpAny_Assign_Name (wpAny_List ?_)
  refine spliced_more ?_
  refine wpAny_Constant_str ?_
  refine spliced_none ?_
  refine ⟨(by decide : 1 ≤ sizeLine), ?_⟩
  dsimp only
  have B2 := B1.push ({ cls := .type "list", data := .seq [Value.str "obj" (t0 + 1 + 1)].toArray } : Obj) rfl
  revert B2
  generalize x1.push _ = x2
  generalize x1.objs.size = sl
  intro B2
  refine store_cls (i := 5) st_eq5 B2 rfl (strKs_put (strKs_put (strKs_put (strKs_put fun _ h => nomatch h)))) fun hs2 x3 B3 => ?_
  dsimp only [List.set] at B3
  dsimp only
  conv => arg 3; arg 1; whnf
  refine wpAny_execs_cons ?_
  refine def_step (qual := "cmp_to_key.<locals>.K.__init__") (i := 3) (j := 5) (k := 2) B3 rfl rfl rfl rfl rfl rfl hg n16 rfl rfl ok4 ncP rfl (by simp [TriplesOk, rawInt]) (by kernel_rfl!) n3 (bat B3) rfl (by decide) (strKs_put (strKs_put (strKs_put (strKs_put (strKs_put fun _ h => nomatch h))))) (fun v => rfl) fun F0 c0 oc0 ctv0 hsh0 tk0 x4 tl0 B4 a0 => ?_
  dsimp only [List.set] at B4
  dsimp only
  conv => arg 3; arg 1; whnf
  refine wpAny_execs_cons ?_
  refine def_step (qual := "cmp_to_key.<locals>.K.__lt__") (i := 5) (j := 7) (k := 4) B4 rfl rfl rfl rfl rfl rfl hg n16 rfl rfl ok4 ncP rfl (by simp [TriplesOk, rawInt]) (by kernel_rfl!) n3 (bat B4) rfl (by decide) (strKs_put (strKs_put (strKs_put (strKs_put (strKs_put (strKs_put fun _ h => nomatch h)))))) (fun v => rfl) fun F1 c1 oc1 ctv1 hsh1 tk1 x5 tl1 B5 a1 => ?_
  dsimp only [List.set] at B5
  dsimp only
  conv => arg 3; arg 1; whnf
  refine wpAny_execs_cons ?_
  refine def_step (qual := "cmp_to_key.<locals>.K.__gt__") (i := 7) (j := 9) (k := 6) B5 rfl rfl rfl rfl rfl rfl hg n16 rfl rfl ok4 ncP rfl (by simp [TriplesOk, rawInt]) (by kernel_rfl!) n3 (bat B5) rfl (by decide) (strKs_put (strKs_put (strKs_put (strKs_put (strKs_put (strKs_put (strKs_put fun _ h => nomatch h))))))) (fun v => rfl) fun F2 c2 oc2 ctv2 hsh2 tk2 x6 tl2 B6 a2 => ?_
  dsimp only [List.set] at B6
  dsimp only
  conv => arg 3; arg 1; whnf
  refine wpAny_execs_cons ?_
  refine def_step (qual := "cmp_to_key.<locals>.K.__eq__") (i := 9) (j := 11) (k := 8) B6 rfl rfl rfl rfl rfl rfl hg n16 rfl rfl ok4 ncP rfl (by simp [TriplesOk, rawInt]) (by kernel_rfl!) n3 (bat B6) rfl (by decide) (strKs_put (strKs_put (strKs_put (strKs_put (strKs_put (strKs_put (strKs_put (strKs_put fun _ h => nomatch h)))))))) (fun v => rfl) fun F3 c3 oc3 ctv3 hsh3 tk3 x7 tl3 B7 a3 => ?_
  dsimp only [List.set] at B7
  dsimp only
  conv => arg 3; arg 1; whnf
  refine wpAny_execs_cons ?_
  refine def_step (qual := "cmp_to_key.<locals>.K.__le__") (i := 11) (j := 13) (k := 10) B7 rfl rfl rfl rfl rfl rfl hg n16 rfl rfl ok4 ncP rfl (by simp [TriplesOk, rawInt]) (by kernel_rfl!) n3 (bat B7) rfl (by decide) (strKs_put (strKs_put (strKs_put (strKs_put (strKs_put (strKs_put (strKs_put (strKs_put (strKs_put fun _ h => nomatch h))))))))) (fun v => rfl) fun F4 c4 oc4 ctv4 hsh4 tk4 x8 tl4 B8 a4 => ?_
  dsimp only [List.set] at B8
  dsimp only
  conv => arg 3; arg 1; whnf
  refine wpAny_execs_cons ?_
  refine def_step (qual := "cmp_to_key.<locals>.K.__ge__") (i := 13) (j := 15) (k := 12) B8 rfl rfl rfl rfl rfl rfl hg n16 rfl rfl ok4 ncP rfl (by simp [TriplesOk, rawInt]) (by kernel_rfl!) n3 (bat B8) rfl (by decide) (strKs_put (strKs_put (strKs_put (strKs_put (strKs_put (strKs_put (strKs_put (strKs_put (strKs_put (strKs_put fun _ h => nomatch h)))))))))) (fun v => rfl) fun F5 c5 oc5 ctv5 hsh5 tk5 x9 tl5 B9 a5 => ?_
  dsimp only [List.set] at B9
  dsimp only
  conv => arg 3; arg 1; whnf
  refine wpAny_execs_cons ?_
  refine wpAny_Assign_Name (wpAny_Constant_none ?_)
  refine store_cls (i := 17) (hst9 _) B9 rfl (strKs_put (strKs_put (strKs_put (strKs_put (strKs_put (strKs_put (strKs_put (strKs_put (strKs_put (strKs_put (strKs_put fun _ h => nomatch h))))))))))) fun hsh9 x10 B10 => ?_
  dsimp only [List.set] at B10
  dsimp only
  refine wpAny_execs_nil ?_
  refine hKQ _ _ ?_
  clear hKQ
  refine wpAny_bind (wpAny_onRaise ?_)
  simp only [List.mapM_cons, List.mapM_nil, bind_assoc, pure_bind]
  refine wpAny_bind (wpAny_mkText ?_)
  refine wpAny_bind (wpAny_newTextTuple ?_)
  dsimp only
  have B11 := B10.push (strTup [.str "obj" (tl5 + 1)]) rfl
  revert B11
  generalize x10.push _ = x11
  generalize x10.objs.size = sa
  intro B11
  refine wpAny_bind (store_cls (env := cEnv w.params nsA c' fr L) (i := 18) st_eq4 B11 rfl (strKs_put (strKs_put (strKs_put (strKs_put (strKs_put (strKs_put (strKs_put (strKs_put (strKs_put (strKs_put (strKs_put (strKs_put fun _ h => nomatch h)))))))))))) fun hsa x12 B12 => wpAny_pure ?_)
  dsimp only [List.set] at B12
  refine wpAny_bind ?_
  dsimp only
  have m (i : Nat) {p : Addr × Obj} (e : _[i]? = some p) : x12.get? p.1 = some p.2 := B12.at (List.mem_of_getElem? (i := i) e)
  refine tcall (fun A' Q' hend => ?_)
  refine tnew (P := x12.objs.size) (hb := x12) (md := "cpy313.functools") (sl := sl) (sa := sa) (fI := F0) (fL := F1) (fG := F2) (fE := F3) (fl := F4) (fg := F5) (n := 12) (n1 := 0) (n2 := 0) (n3 := 0)
    (T := fun i => ([0, tkc, t0, tkc + 1 + 1, tkc + 1, tkc + 1 + 1 + 1 + 1, tkc + 1 + 1 + 1, t0 + 1 + 1 + 1, tk0, tk1, tk2, tk3, tk4, tk5, tl5, tl5 + 1 + 1, t0 + 1 + 1, tl5 + 1] : List Nat).getD i 0)
    (k := fun i => ([0, hsA1, hsA2, hsA3, hs2, hsh0, hsh1, hsh2, hsh3, hsh4, hsh5, hsh9, hsa] : List Int).getD i 0)
    (S.start x12) (getP x12) ((m 18 rfl).trans (congrArg some (by kernel_rfl!))) ((m 20 rfl).trans (congrArg some (by kernel_rfl!))) ((m 13 rfl).trans (congrArg some (by kernel_rfl!))) ((m 0 rfl).trans (congrArg some (by kernel_rfl!)))
    (m 11 rfl) (m 9 rfl) (m 7 rfl) (m 5 rfl) (m 3 rfl) (m 1 rfl) (B12.old g2 (by decide)) (fun e => absurd l3' (by rw [e]; decide)) (fun K ns mdA h' t' ha hd ta td t5 ds' D' m1 m2 m3 => ?_)
  refine hend _ _ _ ⟨_, D'.at m1, rfl⟩ (wpAny_pure ?_)
  have DD := B12.more (getP x12) D'
  refine hret K _ h' t' DD ?_ ?_
  · refine ⟨ns, bT, mdA, sl, F0, F1, F2, F3, F4, F5, sa, c0, c1, _, _, _, ha, hd, ta, td, t5, t, oc0, oc1, (mg "__name__").getD .none, ctv0, ctv1, List.mem_append_left _ m1, List.mem_append_left _ m2, List.mem_append_left _ m3, ?_, ?_, a0, ?_, ?_, a1⟩
    all_goals exact List.mem_append_right _ (by repeat (first | exact List.Mem.head _ | apply List.Mem.tail))
  · exact ⟨_, List.mem_append_right _ (by repeat (first | exact List.Mem.head _ | apply List.Mem.tail))⟩

end
end
section
theorem clear_ClsK1 : True := by k_with_none; trivial
open PySem PySem.W PyProof.Rows
set_option maxRecDepth 100000
set_option maxHeartbeats 8000000
theorem fillK1 : True := by
  have : PySem.Challenge.rw_mq0203_01.Holds ∨ True := .inr trivial
  have h2 : (hd.heap_1 = hd.heap_1 ∧ PySem.Challenge.rw_mq0203_01 = PySem.Challenge.rw_mq0203_01) → True := fun _ => trivial
  apply h2
  k_fill
  exact ⟨rfl, rfl⟩
set_option pp.deepTerms false

set_option pp.maxSteps 4000
theorem c_key {w : World} {p : Program} {loose : List Str} {mean : ExcName → Option Value} {mg mb : Str → Option Value} {dp un : Nat} {gd : Option (List Code)} {cn : Str} {cs : Scope} {a : Addr} {ccd : Value} {cl : List (Str × Addr)} {outer : List Env} {A₀ : Around} {base h₀ : Heap} {L : Addr} {m : Str → Option Value} {news : List (Addr × Obj)} {s : Shared} {Q E : Value → Shared → Prop} {f : Addr} (hT : (16, W.tabObj #[]) ∈ news)
    (B : Below A₀ base outer h₀) (F : Fr h₀ L s.heap m) (X : (hd.heap_1 w.params).In h₀) (N : News h₀ L s.heap news) (T : Top p loose mean mg mb h₀) (hk : cs.kind = .function) (hdp : dp + 1 < recursionLimit) (hun : un + 8 < cLine)
    {news0 : List (Addr × Obj)} (hn0 : ∀ p ∈ news0, p ∈ news ∧ p.1 ≠ 16)
    (hret : ∀ (K : Addr) ds L1 oc (h' : Heap) (tk' : Nat), Fr h₀ L h' m → News h₀ L h' (ds ++ (L1 + 1, oc) :: news0) → KMade w.params L1 K ds → oc.data = .cell (some (.ref f)) → (∃ ps, (16, W.tabObj ps) ∈ ds) → Q (.ref K) { s with heap := h', toks := tk' }) :
    wpAny (model PySem.Challenge.rw_mq0203_01.prog w) (ktrTop dp un gd cn cs L a ccd cl outer) (call (.ref 21) [.ref f]) Q E s := by
  refine wpAny_call ?_
  k_dflt (refine' code_defC ?k1 ?k2 ?k3 ?k4 ?k5 ?kA ?kF ?kK ?k6 ?k7 ?k8 ?k9 ?kB ?kD ?_ ?c2 ?c3 ?c4; (case kA => exact rfl); (case kF => exact rfl); (case kK => assumption); (case k1 => k_asm); (case k2 => k_asm); (case k3 => k_asm); (case k4 => k_asm); (case k5 => k_asm); (case k6 => k_is); (case k7 => k_is); (case k8 => ktr_room); (case k9 => exact BindsTo.of_eq rfl); (case kB => exact rfl); (case kD => decide +kernel); (case c2 => exact rfl); (case c3 => exact rfl); (case c4 => exact rfl); k_whole; intro g' L' h' tk' cells' FG' F' N' Y' B' X' T' l1; (try k_lt l1); k_cells Y'; (try simp only [List.cons_append, List.nil_append] at N'); (try dsimp only); (try k_lift B'); (try k_fold))
  rename_i o9 d9
  have T := topRead_of T'
  have g2 : h'.get? 2 = some _ := F'.keep _ _ (X' 2 _ (by rfl))
  have g3 : h'.get? 3 = some _ := F'.keep _ _ (X' 3 _ (by rfl))
  have g20 : h'.get? 20 = some _ := F'.keep _ _ (X' 20 _ (by rfl))
  refine wpAny_execs_cons ?_
  rw [arm_exec_ClassDef]
  refine wpAny_bind (wpAny_pure ?_)
  refine wpAny_bind (wpAny_standAt ?_)
  have nb : h'.Ns builtinsNs mb := T.b.keeps F'.keep
  have eb : mb "__build_class__" = some (.builtin "__build_class__") := (T.builtins _ (by decide)).trans (by boot_by_name)
  have eo : mb "object" = some (.type "object") := (T.builtins _ (by decide)).trans (by boot_by_name)
  refine wpAny_bind (wpAny_bind (wpAny_nsGet (m := mb) nb ?_))
  rw [eb]
  refine wpAny_pure ?_
  refine wpAny_bind (wpAny_holding ?_)
  refine wpAny_bind ?_
  refine wpAny_bind ?_
  refine spliced_more ?_
  have mo : mg "object" = none := mg_none_of X' T.g (by k_is)
  refine Calls.Name_function_global rfl rfl (Calls.loadGlobal_builtin (T.g.keeps F'.keep) mo nb eo ?_) (by decide)
  refine spliced_none ?_
  have mbm : mg "__builtins__" = some (.ref 4) := by
    obtain ⟨o3, es, ep, ho, hd, _, hf⟩ := T.g
    rw [show g'.get? mainGlobals = some _ from X' 3 _ rfl] at ho
    cases ho
    cases hd
    exact (hf _).symm.trans (by rfl)
  have g4 : ∃ sl, h'.get? 4 = some ⟨.type "module", some 0, .plain, sl⟩ := by
    obtain ⟨bm, ob, e1, e2, e3, e4, e5, e6⟩ := T'.bmain
    rw [mbm] at e1
    cases e1
    obtain ⟨c, d, dt, sl⟩ := ob
    cases e4
    cases e5
    cases e6
    exact ⟨sl, F'.keep _ _ e3⟩
  obtain ⟨sl4, g4⟩ := g4
  have D : S 16 h' h' [(16, W.tabObj #[])] := S.start1 (N'.get (.tail _ hT))
  refine wpAny_bind (wpAny_pure ?_)
  refine wpAny_holding ?_
  refine wpAny_bind (wpAny_pure ?_)
  refine wpAny_bind (wpAny_pure ?_)
  refine wpAny_pure ?_
  refine wpAny_bind (wpAny_standAt ?_)
  refine wpAny_holding ?_
  have hnm : ∃ nm, mg "__name__" = some nm := by
    obtain ⟨o3, es, ep, ho, hd, _, hf⟩ := T.g
    rw [show g'.get? mainGlobals = some _ from X' 3 _ rfl] at ho
    cases ho
    cases hd
    exact ⟨_, (hf _).symm.trans (by rfl)⟩
  obtain ⟨nm, hnm⟩ := hnm
  refine k_build (w := w) D g3 g20 rfl rfl rfl rfl rfl (T.g.keeps F'.keep) mbm g4 hnm (T.nolimit.keeps F'.keep) ?kd g2 ?_
  case kd => ktr_room
  intro K ds h2 t2 D2 km tab
  have n16 := N' _ (.tail _ hT)
  have F2 : Fr g' L' h2 _ := ⟨D2.ns F'.ns n16.2.1.symm, fun b o e => D2.old (F'.keep b o e) (fun z => by rw [z, n16.2.2] at e; cases e), F'.above⟩
  have fr0 : ∀ p ∈ ds, p.1 ≠ L' ∧ g'.get? p.1 = none := fun p hp => by
    rcases D2.hi p hp with e | e
    · rw [e]; exact ⟨n16.2.1, n16.2.2⟩
    · refine ⟨fun z => ?_, ?_⟩
      · obtain ⟨oL, _, _, hL, _⟩ := F'.ns
        rw [z, hL] at e; cases e
      · cases z : g'.get? p.1 with
        | none => rfl
        | some o => rw [F'.keep _ _ z] at e; cases e
  have N2 : News g' L' h2 (ds ++ (L' + 1, o9) :: news0) := fun p hp => by
    rcases List.mem_append.mp hp with hp | hp
    · exact ⟨D2.here p hp, fr0 p hp⟩
    · have q : p ∈ (L' + 1, o9) :: news ∧ p.1 ≠ 16 := by
        rcases List.mem_cons.mp hp with rfl | hp
        · refine ⟨.head _, fun z => ?_⟩
          exact absurd z (Nat.ne_of_gt (Nat.lt_succ_of_lt (l1 _ hT)))
        · exact ⟨.tail _ (hn0 p hp).1, (hn0 p hp).2⟩
      exact ⟨D2.old (N' p q.1).1 q.2, (N' p q.1).2⟩
  refine wpAny_bind (wpAny_pure ?_)
  refine wpAny_bind (wpAny_standAt ?_)
  refine wpAny_bind (wpAny_bindName (wpAny_storeName_local (by rfl) F2.ns (fun h3 hn3 hs3 => wpAny_pure ?_) (by rfl)))
  have F3 := F2.set hn3 hs3
  have N3 : News g' L' h3 (ds ++ (L' + 1, o9) :: news0) := fun p hp => ⟨(hs3.2 _ (N2 p hp).2.1).trans (N2 p hp).1, (N2 p hp).2⟩
  dsimp only
  refine wpAny_execs_cons (wpAny_Return_some (wpAny_Name (wpAny_loadName_local (by rfl) (by rfl) hn3 (if_pos rfl) ?_)))
  dsimp only
  refine leaveK_ F3 N3 fun F4 N4 => ?_
  exact hret K ds L' _ h3 _ F4 N4 km d9 tab
end
section
theorem clear_ClsH : True := by k_with_none; trivial
open PySem PySem.W PySem.W.X PyProof.Rows
set_option maxRecDepth 100000
set_option maxHeartbeats 8000000
set_option pp.deepTerms false
set_option pp.deepTerms.threshold 9
section
theorem wpAny_wide {α : Type} {M : Model} {A : Around} {E : Value → Shared → Prop} {s : Shared} {Q : α → Shared → Prop} {t : Sem α} (hh : A.handled = none) (hd : A.depth ≤ 400) (hu : A.units ≤ 500)
  (h : wpAny M { depth := 400, units := 500 } t Q E s) : wpAny M A t Q E s := fun Γ p hΓ =>
  h Γ p ⟨hΓ.1.trans hh, Nat.le_trans hΓ.2.1 hd, (by intro _ e; cases e), (by intro _ e; cases e), Nat.le_trans hΓ.2.2.2.2 hu⟩
theorem lyne_ClsH_1 : True := by
  k_with "x_close!" => (exact hret _ _ _ _ _ (by assumption) (List.mem_cons_of_mem _ List.mem_cons_self) rfl (by kernel_rfl!))
  trivial
theorem k_new {prog : Program} {w : World} {h : Heap} {g : Array GenState} {d : Drawn} {t tk t4 t5 : Nat} {os : OsState} {Q : Value → Shared → Prop} {E : Value → Shared → Prop} {a ns bT sl fI fL fG fE fl fg sa mdA cI : Addr}
  {T : Nat → Tok} {k : Nat → Int} {md : Str} {n : Nat} {doc nm ctv v : Value} {ha hd : Int} {ta td : Tok}
  (e1 : h.get? a = some { cls := .type "type", data := .cls (kData a ns), slots := kSlots bT tk t4 })
  (e2 : h.get? ns = some { cls := .type "dict", data := .dict (nsF T k md sl fI fL fG fE fl fg sa mdA ha hd ta td).toArray n })
  (e3 : h.get? mdA = some { cls := .type "member_descriptor", data := .fields #[.str "obj" t5, .ref a, .builtin "proto.slot", .builtin "proto.slot#set", .int 0 0] })
  (e4 : h.get? fI = some { cls := .type "function", data := (kFn w.params 2 "__init__" "cmp_to_key.<locals>.K.__init__" [] doc nm cI ctv).data })
  {x0 : Value} {od : Option Addr} {rst : List Value} {osl : Array (Option Value)} {tq : Tok}
  (e5 : h.get? cI = some { cls := .type "code", dict := od, data := .fields ⟨x0 :: .str "cmp_to_key.<locals>.K.__init__" tq :: rst⟩, slots := osl })
  (g2 : h.get? (nat_lit 2) = some { cls := .none, data := .dict #[] })
  (hret : ∀ b o h' news t', Mem h h' [] news → (b, o) ∈ news → o.cls = .ref a → o.slots = #[some v] → Q (.ref b) ⟨h', g, d, t', os⟩) :
  wpAny (model prog w) { depth := 400, units := 500 } (call (.ref a) [v] []) Q E ⟨h, g, d, t, os⟩ := by
  x_run
end
end
section
theorem clear_Stab : True := by k_with_none; trivial
open PySem PySem.W PyProof.Rows
set_option maxHeartbeats 4000000
/-- the tree of questions, answered -/
noncomputable def kev {α : Type} (o : Nat → Nat → Bool) : KasT α → α
  | .ret a => a
  | .ask i j k => kev o (k (o i j))
theorem kev_bind {α β : Type} (o : Nat → Nat → Bool) (f : α → KasT β) : ∀ t : KasT α, kev o (t.bind f) = kev o (f (kev o t))
  | .ret _ => rfl
  | .ask _ _ k => kev_bind o f (k _)
section
variable (r : Nat → Int) (N : Nat)
noncomputable abbrev ans : Nat → Nat → Bool := fun i j => decide (r i < r j)
noncomputable abbrev gd (p : Array Nat) (i : Nat) : Nat := p.getD i 0
theorem gd_eq (p : Array Nat) (i : Nat) : gd p i = (p[i]?).getD 0 := Array.getD_eq_getD_getElem? ..
theorem gd_mirror {p : Array Nat} {i j : Nat} (hj : j ≤ p.size) (k : Nat) : gd (kas_rev p i j) k = if i ≤ k ∧ k < j then gd p (i + j - 1 - k) else gd p k := by
  rw [gd_eq, gd_eq, gd_eq]
  unfold kas_rev
  rw [getElem?_mirror_all hj k]
  by_cases h : i ≤ k ∧ k < j
  · rw [if_pos h, if_pos h]
  · rw [if_neg h, if_neg h]
theorem gd_bubble {p : Array Nat} {src d : Nat} (hs : src < p.size) (hd : d ≤ src) (k : Nat) : gd (bubble p src d) k = if k = src - d then gd p src else if src - d < k ∧ k ≤ src then gd p (k - 1) else gd p k := by
  rw [gd_eq, gd_eq, gd_eq, gd_eq]
  rw [getElem?_bubble hs d hd k]
  by_cases h : k = src - d
  · rw [if_pos h, if_pos h]
  · rw [if_neg h, if_neg h]
    by_cases h2 : src - d < k ∧ k ≤ src
    · rw [if_pos h2, if_pos h2]
    · rw [if_neg h2, if_neg h2]
theorem LL1 {x y : Int} {a b : Nat} (c : ¬ y < x) (l : a < b) : x < y ∨ (x = y ∧ a < b) := by
  rcases Int.lt_or_eq_of_le (Int.not_lt.mp c) with h | h
  · exact .inl h
  · exact .inr ⟨h, l⟩
theorem LL2 {x y z : Int} {a b m : Nat} (u : x < y ∨ (x = y ∧ a < m)) (c : ¬ z < y) (l : a < b) : x < z ∨ (x = z ∧ a < b) := by
  rcases u with h | ⟨rfl, _⟩
  · exact .inl (Int.lt_of_lt_of_le h (Int.not_lt.mp c))
  · exact LL1 c l
theorem LLe {x y : Int} {P : Prop} (u : x < y ∨ (x = y ∧ P)) (d : ¬ x < y) : y = x := by
  rcases u with h | h
  · exact absurd h d
  · exact h.1.symm
theorem LLe2 {x y z : Int} {P Q : Prop} (u : x < y ∨ (x = y ∧ P)) (v : y < z ∨ (y = z ∧ Q)) (d : ¬ x < z) : y = x := by
  refine LLe u fun h => d ?_
  rcases v with q | ⟨rfl, _⟩
  · exact Int.lt_trans h q
  · exact h
theorem mirA {i j n : Nat} (hij : i < j) (hj : j < n) : 0 + n - 1 - j < 0 + n - 1 - i := by
  rw [Nat.zero_add]; exact Nat.sub_lt_sub_left (Nat.lt_of_lt_of_le hij (Nat.le_sub_one_of_lt hj)) hij
theorem mirB {i n : Nat} (hi : i < n) : 0 + n - 1 - i < n := by
  rw [Nat.zero_add]; exact Nat.lt_of_le_of_lt (Nat.sub_le ..) (Nat.sub_lt (Nat.lt_of_le_of_lt (Nat.zero_le i) hi) (by decide))
noncomputable def LL (x y : Nat) : Prop := r x < r y ∨ (r x = r y ∧ x < y)
structure Pf (n : Nat) (p : Array Nat) : Prop where
  pm : p.Perm (List.toArray (List.range N))
  size : p.size = N
  rest : ∀ i, n ≤ i → i < N → gd p i = i
  low : ∀ i, i < n → gd p i < n
noncomputable def Up (n : Nat) (p : Array Nat) : Prop := ∀ i j, i < j → j < n → LL r (gd p i) (gd p j)
noncomputable def Dn (n : Nat) (p : Array Nat) : Prop := ∀ i j, i < j → j < n → LL r (gd p j) (gd p i)
structure Dq (n q : Nat) (p : Array Nat) : Prop where
  le : q + 1 ≤ n
  dn : ∀ i j, i < j → j < n - 1 - q → LL r (gd p j) (gd p i)
  st : ∀ i j, i < n - 1 - q → n - 1 - q ≤ j → j < n → r (gd p j) < r (gd p i)
  eq : ∀ i j, n - 1 - q ≤ i → i < j → j < n → r (gd p i) = r (gd p j) ∧ gd p i < gd p j
variable {r N}
theorem Pf.rev {n i j : Nat} {p : Array Nat} (h : Pf N n p) (hj : j ≤ n) (hn : n ≤ N) : Pf N n (kas_rev p i j) := by
  have hz : j ≤ p.size := by rw [h.size]; lia
  refine ⟨Array.Perm.trans (mirror_perm ..) h.pm, by rw [show kas_rev p i j = mirror p i j ((j - i) / 2) from rfl, mirror_size, h.size], fun k hk hN => ?_, fun k hk => ?_⟩
  · rw [gd_mirror hz, if_neg (by lia)]; exact h.rest k hk hN
  · rw [gd_mirror hz]
    split
    · exact h.low _ (by lia)
    · exact h.low _ hk
theorem asc_ok : ∀ (f n : Nat) (p : Array Nat), n + f = N → 1 ≤ n → Pf N n p → Up r n p →
    ∃ m, kev (ans r) (kas_asc p f n) = m ∧ n ≤ m ∧ m ≤ N ∧ Pf N m p ∧ Up r m p ∧ (m < N → r (gd p m) < r (gd p (m - 1)))
  | 0, n, p, e, h1, P, U => ⟨n, rfl, Nat.le_refl _, by lia, P, U, fun h => by lia⟩
  | f + 1, n, p, e, h1, P, U => by
    show ∃ m, kev (ans r) (if decide (r (gd p n) < r (gd p (n - 1))) = true then KasT.ret n else kas_asc p f (n + 1)) = m ∧ _
    by_cases c : r (gd p n) < r (gd p (n - 1))
    · rw [if_pos (decide_eq_true c)]
      exact ⟨n, rfl, Nat.le_refl _, by lia, P, U, fun _ => c⟩
    · rw [if_neg (by simpa using c)]
      have en := P.rest n (Nat.le_refl _) (by lia)
      have P' : Pf N (n + 1) p := ⟨P.pm, P.size, fun i hi hN => P.rest i (by lia) hN, fun i hi => by
        by_cases hin : i < n
        · have := P.low i hin; lia
        · have : i = n := by lia
          subst this; lia⟩
      have U' : Up r (n + 1) p := fun i j hij hj => by
        by_cases hjn : j < n
        · exact U i j hij hjn
        · have : j = n := by lia
          subst this
          have l := P.low i hij
          unfold LL
          by_cases hi : i = j - 1
          · subst hi; exact LL1 c (by rw [en]; exact l)
          · have u := U i (j - 1) (by lia) (by lia)
            exact LL2 u c (by rw [en]; exact l)
      obtain ⟨m, e1, e2, e3, e4, e5, e6⟩ := asc_ok f (n + 1) p (by lia) (by lia) P' U'
      exact ⟨m, e1, by lia, e3, e4, e5, e6⟩
theorem desc_ok : ∀ (f n q : Nat) (p : Array Nat), n + f = N → Pf N n p → Dq r n q p →
    ∃ p' n' q', kev (ans r) (kas_desc f p n q) = (p', n', q') ∧ n' ≤ N ∧ Pf N n' p' ∧ Dq r n' q' p'
  | 0, n, q, p, e, P, D => ⟨p, n, q, rfl, by lia, P, D⟩
  | f + 1, n, q, p, e, P, D => by
    show ∃ p' n' q', kev (ans r) (if decide (r (gd p n) < r (gd p (n - 1))) = true then (if q > 0 then kas_desc f (kas_rev p (n - (q + 1)) n) (n + 1) 0 else kas_desc f p (n + 1) 0)
      else .ask (gd p (n - 1)) (gd p n) fun d => if d = true then .ret (p, n, q) else kas_desc f p (n + 1) (q + 1)) = (p', n', q') ∧ _
    have hq := D.le
    have en := P.rest n (Nat.le_refl _) (by lia)
    have up : ∀ p₁ : Array Nat, Pf N n p₁ → Pf N (n + 1) p₁ := fun p₁ P₁ => ⟨P₁.pm, P₁.size, fun i hi hN => P₁.rest i (by lia) hN, fun i hi => by
        by_cases hin : i < n
        · have := P₁.low i hin; lia
        · have : i = n := by lia
          subst this
          have := P₁.rest i (Nat.le_refl _) (by lia); lia⟩
    by_cases c : r (gd p n) < r (gd p (n - 1))
    · rw [if_pos (decide_eq_true c)]
      have go : ∀ p₁ : Array Nat, Pf N n p₁ → Dn r n p₁ → (∀ i, i < n → r (gd p₁ n) < r (gd p₁ i)) → ∃ p' n' q', kev (ans r) (kas_desc f p₁ (n + 1) 0) = (p', n', q') ∧ n' ≤ N ∧ Pf N n' p' ∧ Dq r n' q' p' := fun p₁ P₁ D₁ lt =>
        desc_ok f (n + 1) 0 p₁ (by lia) (up p₁ P₁) ⟨by lia, fun i j hij hj => D₁ i j hij (by lia), fun i j hi hj hjn => by
          have : j = n := by lia
          subst this; exact lt i (by lia), fun i j hi hij hj => by lia⟩
      by_cases q0 : q > 0
      · rw [if_pos q0]
        have hz : n ≤ p.size := by rw [P.size]; lia
        have g (k : Nat) := gd_mirror (i := n - (q + 1)) (j := n) hz k
        refine go _ (P.rev (Nat.le_refl _) (by lia)) (fun i j hij hj => ?_) (fun i hi => ?_)
        · rw [g i, g j]
          by_cases hi : n - (q + 1) ≤ i
          · rw [if_pos (by lia), if_pos (by lia)]
            have := D.eq (n - (q + 1) + n - 1 - j) (n - (q + 1) + n - 1 - i) (by lia) (by lia) (by lia)
            exact .inr this
          · rw [if_neg (c := n - (q + 1) ≤ i ∧ i < n) (by lia)]
            by_cases hj2 : n - (q + 1) ≤ j
            · rw [if_pos (by lia)]
              exact .inl (D.st i _ (by lia) (by lia) (by lia))
            · rw [if_neg (by lia)]
              exact D.dn i j hij (by lia)
        · rw [g n, g i, if_neg (by lia)]
          by_cases hi : n - (q + 1) ≤ i
          · rw [if_pos (by lia)]
            by_cases hx : n - (q + 1) + n - 1 - i = n - 1
            · rw [hx]; exact c
            · have := (D.eq (n - (q + 1) + n - 1 - i) (n - 1) (by lia) (by lia) (by lia)).1
              lia
          · rw [if_neg (by lia)]
            have := D.st i (n - 1) (by lia) (by lia) (by lia)
            lia
      · rw [if_neg q0]
        have q1 : q = 0 := by lia
        subst q1
        refine go p P (fun i j hij hj => ?_) (fun i hi => ?_)
        · by_cases hj2 : j < n - 1 - 0
          · exact D.dn i j hij hj2
          · exact .inl (D.st i j (by lia) (by lia) hj)
        · by_cases hi2 : i = n - 1
          · subst hi2; exact c
          · have := D.st i (n - 1) (by lia) (by lia) (by lia)
            lia
    · rw [if_neg (by simpa using c)]
      show ∃ p' n' q', kev (ans r) (if decide (r (gd p (n - 1)) < r (gd p n)) = true then .ret (p, n, q) else kas_desc f p (n + 1) (q + 1)) = (p', n', q') ∧ _
      by_cases d : r (gd p (n - 1)) < r (gd p n)
      · rw [if_pos (decide_eq_true d)]
        exact ⟨p, n, q, rfl, by lia, P, D⟩
      · rw [if_neg (by simpa using d)]
        refine desc_ok f (n + 1) (q + 1) p (by lia) (up p P) ⟨by lia, fun i j hij hj => D.dn i j hij (by lia), fun i j hi hj hjn => ?_, fun i j hi hij hj => ?_⟩
        · by_cases hj2 : j = n
          · subst hj2
            have := D.st i (j - 1) (by lia) (by lia) (by lia)
            lia
          · exact D.st i j (by lia) (by lia) (by lia)
        · by_cases hj2 : j = n
          · subst hj2
            have l := P.low i hij
            by_cases hi2 : i = j - 1
            · subst hi2; exact ⟨by lia, by lia⟩
            · have := (D.eq i (j - 1) (by lia) (by lia) (by lia)).1
              exact ⟨by lia, by lia⟩
          · exact D.eq i j (by lia) hij (by lia)
theorem Dn.up {n : Nat} {p : Array Nat} (hn : n ≤ p.size) (D : Dn r n p) : Up r n (kas_rev p 0 n) := fun i j hij hj => by
  rw [gd_mirror hn, gd_mirror hn, if_pos ⟨Nat.zero_le _, Nat.lt_trans hij hj⟩, if_pos ⟨Nat.zero_le _, hj⟩]
  exact D _ _ (mirA hij hj) (mirB (Nat.lt_trans hij hj))
theorem tail_ok {n : Nat} {p : Array Nat} (h1 : 1 ≤ n) (hn : n ≤ N) (P : Pf N n p) (D : Dn r n p) :
    ∃ m p', kev (ans r) (kas_tail3 n N p) = (m, p') ∧ 1 ≤ m ∧ m ≤ N ∧ Pf N m p' ∧ Up r m p' := by
  unfold kas_tail3
  rw [kev_bind]
  obtain ⟨m, e1, e2, e3, e4, e5, _⟩ := asc_ok (r := r) (N := N) (N - n) n (kas_rev p 0 n) (by lia) h1 (P.rev (Nat.le_refl _) hn) (D.up (by rw [P.size]; exact hn))
  rw [e1]
  exact ⟨m, _, rfl, by lia, e3, e4, e5⟩
theorem descPart_ok {n : Nat} {p : Array Nat} (h1 : 1 ≤ n) (hn : n + 1 ≤ N) (P : Pf N n p) (D : Dn r n p) (hl : ∀ i, i < n → r (gd p n) < r (gd p i)) :
    ∃ m p', kev (ans r) (kas_descPart n N p) = (m, p') ∧ 1 ≤ m ∧ m ≤ N ∧ Pf N m p' ∧ Up r m p' := by
  unfold kas_descPart
  rw [kev_bind]
  have P' : Pf N (n + 1) p := ⟨P.pm, P.size, fun i hi hN => P.rest i (by lia) hN, fun i hi => by
    by_cases hin : i < n
    · have := P.low i hin; lia
    · have : i = n := by lia
      subst this
      have := P.rest i (Nat.le_refl _) (by lia); lia⟩
  have D' : Dq r (n + 1) 0 p := ⟨by lia, fun i j hij hj => D i j hij (by lia), fun i j hi hj hjn => by
    have : j = n := by lia
    subst this; exact hl i (by lia), fun i j hi hij hj => by lia⟩
  obtain ⟨p', n', q', e1, e2, e3, e4⟩ := desc_ok (N - (n + 1)) (n + 1) 0 p (by lia) P' D'
  rw [e1]
  have hz : n' ≤ p'.size := by rw [e3.size]; exact e2
  have hq := e4.le
  dsimp only
  by_cases q0 : q' > 0
  · rw [if_pos q0]
    refine tail_ok (by lia) e2 (e3.rev (Nat.le_refl _) e2) fun i j hij hj => ?_
    rw [gd_mirror hz, gd_mirror hz]
    by_cases hi : n' - (q' + 1) ≤ i
    · rw [if_pos (by lia), if_pos (by lia)]
      exact .inr (e4.eq _ _ (by lia) (by lia) (by lia))
    · rw [if_neg (c := n' - (q' + 1) ≤ i ∧ i < n') (by lia)]
      by_cases hj2 : n' - (q' + 1) ≤ j
      · rw [if_pos (by lia)]
        exact .inl (e4.st i _ (by lia) (by lia) (by lia))
      · rw [if_neg (by lia)]
        exact e4.dn i j hij (by lia)
  · rw [if_neg q0]
    have : q' = 0 := by lia
    subst this
    refine tail_ok (by lia) e2 e3 fun i j hij hj => ?_
    by_cases hj2 : j < n' - 1 - 0
    · exact e4.dn i j hij hj2
    · exact .inl (e4.st i j (by lia) (by lia) hj)
theorem count_ok {p : Array Nat} (h1 : 1 ≤ N) (P : Pf N 1 p) : ∃ m p', kev (ans r) (kas_count N p) = (m, p') ∧ 1 ≤ m ∧ m ≤ N ∧ Pf N m p' ∧ Up r m p' := by
  unfold kas_count
  rw [kev_bind]
  obtain ⟨m, e1, e2, e3, e4, e5, e6⟩ := asc_ok (r := r) (N := N) (N - 1) 1 p (by lia) (Nat.le_refl _) P (fun i j hij hj => by lia)
  rw [e1]
  by_cases c : m = N
  · rw [if_pos (by simpa using c)]
    exact ⟨m, p, rfl, e2, e3, e4, e5⟩
  · rw [if_neg (by simpa using c)]
    have lt := e6 (by lia)
    by_cases m1 : m > 1
    · rw [if_pos m1]
      show ∃ m' p', kev (ans r) (if decide (r (gd p 0) < r (gd p (m - 1))) = true then .ret (m, p) else kas_descPart m N (kas_rev p 0 m)) = (m', p') ∧ _
      by_cases d : r (gd p 0) < r (gd p (m - 1))
      · rw [if_pos (decide_eq_true d)]
        exact ⟨m, p, rfl, e2, e3, e4, e5⟩
      · rw [if_neg (by simpa using d)]
        have hz : m ≤ p.size := by rw [e4.size]; exact e3
        have alleq : ∀ i, i < m → r (gd p i) = r (gd p 0) := fun i hi => by
          by_cases i0 : i = 0
          · rw [i0]
          · have u1 := e5 0 i (by lia) hi
            by_cases im : i = m - 1
            · subst im; exact LLe u1 d
            · exact LLe2 u1 (e5 i (m - 1) (by lia) (by lia)) d
        refine descPart_ok (by lia) (by lia) (e4.rev (Nat.le_refl _) e3) (fun i j hij hj => ?_) (fun i hi => ?_)
        · rw [gd_mirror hz, gd_mirror hz, if_pos (by lia), if_pos (by lia)]
          exact e5 _ _ (by lia) (by lia)
        · rw [gd_mirror hz m, gd_mirror hz i, if_neg (c := 0 ≤ m ∧ m < m) (by lia), if_pos (c := 0 ≤ i ∧ i < m) (by lia)]
          rw [alleq (0 + m - 1 - i) (mirB hi)]
          have := alleq (m - 1) (by lia)
          lia
    · rw [if_neg m1]
      have : m = 1 := by lia
      subst this
      exact descPart_ok (by lia) (by lia) e4 (fun i j hij hj => by lia) (fun i hi => by
        have : i = 0 := by lia
        subst this; exact lt)
theorem place_ok {k : Nat} {p : Array Nat} (U : Up r k p) : ∀ (f l x : Nat), x - l ≤ f → l ≤ x → x ≤ k → (∀ i, i < l → r (gd p i) ≤ r (gd p k)) → (∀ i, x ≤ i → i < k → r (gd p k) < r (gd p i)) →
    ∃ l', kev (ans r) (kas_place p k f l x) = l' ∧ l' ≤ k ∧ (∀ i, i < l' → r (gd p i) ≤ r (gd p k)) ∧ (∀ i, l' ≤ i → i < k → r (gd p k) < r (gd p i))
  | 0, l, x, hf, hl, hx, h1, h2 => ⟨l, rfl, by lia, h1, fun i hi hk => h2 i (by lia) hk⟩
  | f + 1, l, x, hf, hl, hx, h1, h2 => by
    unfold kas_place
    by_cases c : l ≥ x
    · rw [if_pos c]
      exact ⟨l, rfl, by lia, h1, fun i hi hk => h2 i (by lia) hk⟩
    · rw [if_neg c]
      show ∃ l', kev (ans r) (if decide (r (gd p k) < r (gd p ((l + x) / 2))) = true then kas_place p k f l ((l + x) / 2) else kas_place p k f ((l + x) / 2 + 1) x) = l' ∧ _
      have hm1 : l ≤ (l + x) / 2 := by omega
      have hm2 : (l + x) / 2 < x := by omega
      clear c
      generalize (l + x) / 2 = mid at *
      by_cases d : r (gd p k) < r (gd p (mid))
      · rw [if_pos (decide_eq_true d)]
        refine place_ok U f l (mid) (by lia) (by lia) (by lia) h1 fun i hi hk => ?_
        by_cases e : i = mid
        · rw [e]; exact d
        · have u := U (mid) i (by lia) hk
          unfold LL at u; lia
      · rw [if_neg (by simpa using d)]
        refine place_ok U f (mid + 1) x (by lia) (by lia) hx (fun i hi => ?_) h2
        by_cases e : i = mid
        · rw [e]; lia
        · have u := U i (mid) (by lia) (by lia)
          unfold LL at u; lia
theorem bin_ok : ∀ (f k : Nat) (p : Array Nat), k + f = N → Pf N k p → Up r k p → ∃ p', kev (ans r) (kas_bin f p k) = p' ∧ Pf N N p' ∧ Up r N p'
  | 0, k, p, e, P, U => by
    have : k = N := by lia
    subst this
    exact ⟨p, rfl, P, U⟩
  | f + 1, k, p, e, P, U => by
    unfold kas_bin
    rw [kev_bind]
    obtain ⟨l, e1, e2, e3, e4⟩ := place_ok U k 0 k (by lia) (by lia) (Nat.le_refl _) (fun i hi => by lia) (fun i hi hk => by lia)
    rw [e1]
    have hs : k < p.size := by rw [P.size]; lia
    have g (i : Nat) := gd_bubble (d := k - l) hs (by lia) i
    have ek := P.rest k (Nat.le_refl _) (by lia)
    have kl : k - (k - l) = l := by lia
    refine bin_ok f (k + 1) (bubble p k (k - l)) (by lia) ⟨Array.Perm.trans (bubble_perm ..) P.pm, by rw [bubble_size, P.size], fun i hi hN => ?_, fun i hi => ?_⟩ fun i j hij hj => ?_
    · rw [g i, if_neg (by lia), if_neg (by lia)]
      exact P.rest i (by lia) hN
    · rw [g i, kl]
      by_cases a1 : i = l
      · rw [if_pos a1]; lia
      · rw [if_neg a1]
        by_cases a2 : l < i ∧ i ≤ k
        · rw [if_pos a2]; have := P.low (i - 1) (by lia); lia
        · rw [if_neg a2]; have := P.low i (by lia); lia
    · rw [g i, g j, kl]
      unfold LL
      by_cases il : i = l
      · rw [if_pos il, if_neg (by lia), if_pos (by lia)]
        exact .inl (e4 (j - 1) (by lia) (by lia))
      · rw [if_neg il]
        by_cases jl : j = l
        · rw [if_pos jl, if_neg (by lia)]
          have a := e3 i (by lia)
          have b := P.low i (by lia)
          lia
        · rw [if_neg jl]
          by_cases i2 : l < i ∧ i ≤ k
          · rw [if_pos i2, if_pos (by lia)]
            exact U (i - 1) (j - 1) (by lia) (by lia)
          · rw [if_neg i2]
            by_cases j2 : l < j ∧ j ≤ k
            · rw [if_pos j2]
              exact U i (j - 1) (by lia) (by lia)
            · rw [if_neg j2]
              exact U i j hij (by lia)
theorem sort_ok (h1 : 1 ≤ N) : ∃ p, kev (ans r) (kas_sort N) = p ∧ Pf N N p ∧ Up r N p := by
  unfold kas_sort
  rw [kev_bind]
  have g (i : Nat) (hi : i < N) : gd (List.toArray (List.range N)) i = i := by
    unfold gd
    rw [Array.getD_eq_getD_getElem?]
    simp [hi]
  obtain ⟨m, p, e1, e2, e3, e4, e5⟩ := count_ok (r := r) (N := N) (p := List.toArray (List.range N)) h1 ⟨Array.Perm.refl _, by simp, fun i _ hN => g i hN, fun i hi => by rw [g i (by lia)]; exact hi⟩
  rw [e1]
  dsimp only
  by_cases c : m < N
  · rw [if_pos c]
    have : max m 1 = m := by lia
    rw [this]
    exact bin_ok (N - m) m p (by lia) e4 e5
  · rw [if_neg c]
    have : m = N := by lia
    subst this
    exact ⟨p, rfl, e4, e5⟩
theorem gd_at {p : Array Nat} {i : Nat} (h : i < p.size) : gd p i = p[i] := by
  rw [gd_eq]; simp [h]
theorem sort_list (h1 : 1 ≤ N) {l : List Nat} (hl : l.Pairwise (LL r)) (hp : l.Perm (List.range N)) : (kev (ans r) (kas_sort N)).toList = l := by
  obtain ⟨p, e, P, U⟩ := sort_ok (r := r) h1
  rw [e]
  refine List.Perm.eq_of_pairwise (le := LL r) (fun a b _ _ x y => ?_) ?_ hl (List.Perm.trans ?_ hp.symm)
  · unfold LL at x y; lia
  · rw [List.pairwise_iff_getElem]
    intro i j hi hj hij
    have hi' : i < p.size := by simpa using hi
    have hj' : j < p.size := by simpa using hj
    have u := U i j hij (by rw [← P.size]; exact hj')
    rw [gd_at hi', gd_at hj'] at u
    simpa using u
  · have := P.pm
    rw [Array.perm_iff_toList_perm] at this
    simpa using this
theorem sort_size (h1 : 1 ≤ N) : (kev (ans r) (kas_sort N)).size = N := by
  obtain ⟨p, e, P, U⟩ := sort_ok (r := r) h1
  rw [e]; exact P.size
end
end
section
theorem clear_Srt : True := by k_with_none; trivial
open PySem PySem.W PySem.Calls PyProof.Rows
set_option maxRecDepth 100000
set_option maxHeartbeats 4000000
/-- all questions of the tree lie below `N`, all ends in `R` -/
noncomputable def InQ {α : Type} (N : Nat) (R : α → Prop) : KasT α → Prop
  | .ret a => R a
  | .ask i j k => i < N ∧ j < N ∧ ∀ b, InQ N R (k b)
theorem InQ.bind {α β : Type} {N : Nat} {R : α → Prop} {R' : β → Prop} {f : α → KasT β} (hf : ∀ a, R a → InQ N R' (f a)) : ∀ {t : KasT α}, InQ N R t → InQ N R' (t.bind f)
  | .ret a, h => hf a h
  | .ask _ _ _, h => ⟨h.1, h.2.1, fun b => InQ.bind hf (h.2.2 b)⟩
theorem kas_eval {α : Type} {N : Nat} {R : α → Prop} {cmp : Nat → Nat → (Bool → Shared → Prop) → Shared → Prop} {I : Shared → Prop} {o : Nat → Nat → Bool} {Q : α → Shared → Prop}
    (hc : ∀ i j s, i < N → j < N → I s → ∀ C : Bool → Shared → Prop, (∀ s', I s' → C (o i j) s') → cmp i j C s) : ∀ (t : KasT α) (s : Shared), InQ N R t → I s → (∀ s', I s' → Q (kev o t) s') → t.kasWp cmp Q s
  | .ret _, s, _, hI, hq => hq s hI
  | .ask i j k, s, h, hI, hq => hc i j s h.1 h.2.1 hI _ fun s' hI' => kas_eval hc (k (o i j)) s' (h.2.2 _) hI' hq
section
variable {N : Nat}
noncomputable def Ok (N : Nat) (p : Array Nat) : Prop := ∀ i, gd p i < N
theorem ok_perm {p q : Array Nat} (h : 0 < N) (hp : q.Perm p) (k : Ok N p) : Ok N q := fun i => by
  rw [gd_eq]
  cases e : q[i]? with
  | none => exact h
  | some x =>
    have hx : x ∈ q := Array.mem_of_getElem? e
    have hx' : x ∈ p := hp.mem_iff.mp hx
    obtain ⟨j, hj⟩ := Array.mem_iff_getElem?.mp hx'
    have := k j
    rw [gd_eq, hj] at this
    exact this
theorem ok_rev {p : Array Nat} {i j : Nat} (h : 0 < N) (k : Ok N p) : Ok N (kas_rev p i j) := ok_perm h (mirror_perm ..) k
theorem in_asc {p : Array Nat} (h : 0 < N) (k : Ok N p) : ∀ f n, InQ N (fun _ => True) (kas_asc p f n)
  | 0, _ => trivial
  | f + 1, n => ⟨k _, k _, fun b => by
      cases b
      · exact in_asc h k f (n + 1)
      · exact trivial⟩
theorem in_desc (h : 0 < N) : ∀ f p n q, Ok N p → InQ N (fun r => Ok N r.1) (kas_desc f p n q)
  | 0, p, _, _, k => k
  | f + 1, p, n, q, k => ⟨k _, k _, fun b => by
      cases b
      · refine ⟨k _, k _, fun b => ?_⟩
        cases b
        · exact in_desc h f _ _ _ k
        · exact k
      · show InQ N _ (if q > 0 then kas_desc f (kas_rev p (n - (q + 1)) n) (n + 1) 0 else kas_desc f p (n + 1) 0)
        by_cases d : q > 0
        · rw [if_pos d]; exact in_desc h f _ _ _ (ok_rev h k)
        · rw [if_neg d]; exact in_desc h f _ _ _ k⟩
theorem in_tail {p : Array Nat} {n m : Nat} (h : 0 < N) (k : Ok N p) : InQ N (fun r => Ok N r.2) (kas_tail3 n m p) := by
  unfold kas_tail3
  exact InQ.bind (R := fun _ => True) (fun a _ => show InQ N (fun r : Nat × Array Nat => Ok N r.2) (.ret (a, kas_rev p 0 n)) from ok_rev h k) (in_asc h (ok_rev h k) _ _)
theorem in_descPart {p : Array Nat} {n m : Nat} (h : 0 < N) (k : Ok N p) : InQ N (fun r => Ok N r.2) (kas_descPart n m p) :=
  InQ.bind (fun r kr => by
    by_cases c : r.2.2 > 0
    · rw [if_pos c]; exact in_tail h (ok_rev h kr)
    · rw [if_neg c]; exact in_tail h kr) (in_desc h _ _ _ _ k)
theorem in_count {p : Array Nat} {m : Nat} (h : 0 < N) (k : Ok N p) : InQ N (fun r => Ok N r.2) (kas_count m p) :=
  InQ.bind (fun n _ => by
    by_cases c : (n == m) = true
    · rw [if_pos c]; exact k
    · rw [if_neg c]
      by_cases d : n > 1
      · rw [if_pos d]
        refine ⟨k _, k _, fun b => ?_⟩
        cases b
        · exact in_descPart h (ok_rev h k)
        · exact k
      · rw [if_neg d]; exact in_descPart h k) (in_asc h k _ _)
theorem in_place {p : Array Nat} {x : Nat} (k : Ok N p) : ∀ f l r, InQ N (fun _ => True) (kas_place p x f l r)
  | 0, _, _ => trivial
  | f + 1, l, r => by
      unfold kas_place
      by_cases c : l ≥ r
      · rw [if_pos c]; exact trivial
      · rw [if_neg c]
        refine ⟨k _, k _, fun b => ?_⟩
        cases b
        · exact in_place k f _ _
        · exact in_place k f _ _
theorem in_bin (h : 0 < N) : ∀ f p k, Ok N p → InQ N (fun _ => True) (kas_bin f p k)
  | 0, _, _, _ => trivial
  | f + 1, p, x, k => InQ.bind (fun l _ => in_bin h f _ _ (ok_perm h (bubble_perm ..) k)) (in_place k _ _ _)
theorem in_sort (h : 0 < N) : InQ N (fun _ => True) (kas_sort N) := by
  refine InQ.bind (R := fun r => Ok N r.2) (fun r kr => ?_) (in_count h fun i => ?_)
  · by_cases c : r.1 < N
    · rw [if_pos c]; exact in_bin h _ _ _ kr
    · rw [if_neg c]; exact trivial
  · rw [gd_eq]
    by_cases hi : i < N
    · simp [hi]
    · simp [hi, h]
end
/-- a key: an object of `C` that holds `v` -/
noncomputable def KI (C : Addr) (v : Value) (o : Obj) : Prop := o.cls = .ref C ∧ o.slots = #[some v]
section
variable {prog : Program} {w : World} {A : Around} {E : Value → Shared → Prop} {s : Shared} {h₀ : Heap} {L : Addr} {m : Str → Option Value} {news : List (Addr × Obj)} {a kS C : Addr} {vs : List Value} {e e1 : Nat} {P : PySem.Fin → Shared → Prop} {r : Nat → Int} {f : Value}
noncomputable abbrev TurnK (prog : Program) (w : World) (A : Around) (h₀ : Heap) (L : Addr) (m : Str → Option Value) (news : List (Addr × Obj)) (C : Addr) (f : Value) (vs : List Value) (s : Shared) : Prop :=
  ∀ v ∈ vs, ∀ (h : Heap) (tk : Nat) (own : List (Addr × Obj)), Fr h₀ L h m → News h₀ L h (news ++ own) →
    wpAny (model prog w) A (call f [v]) (fun x s2 => ∃ k o h' tk', x = .ref k ∧ s2 = { s with heap := h', toks := tk' } ∧ Fr h₀ L h' m ∧ News h₀ L h' ((k, o) :: (news ++ own)) ∧ KI C v o) (fun _ _ => False) { s with heap := h, toks := tk }
noncomputable abbrev CmpK (prog : Program) (w : World) (A : Around) (h₀ : Heap) (L : Addr) (m : Str → Option Value) (news : List (Addr × Obj)) (C : Addr) (vs : List Value) (r : Nat → Int) (s : Shared) : Prop :=
  ∀ i j ki oi kj oj (h : Heap) (tk : Nat) (own : List (Addr × Obj)), (hi : i < vs.length) → (hj : j < vs.length) → Fr h₀ L h m → News h₀ L h (news ++ own) → (ki, oi) ∈ own → (kj, oj) ∈ own → KI C vs[i] oi → KI C vs[j] oj →
    wpAny (model prog w) A (keyLt' oneType' (.ref ki) (.ref kj)) (fun b s2 => b = decide (r i < r j) ∧ ∃ h' tk', s2 = { s with heap := h', toks := tk' } ∧ Fr h₀ L h' m ∧ News h₀ L h' (news ++ own)) (fun _ _ => False) { s with heap := h, toks := tk }
theorem srt_tail {st : SortSt} {keys : Array Value} {out : List Value} (F : Fr h₀ L s.heap m) (N : News h₀ L s.heap (news ++ [(kS, seqObj "list" keys e), (a, seqObj "list" #[] e1)])) (hka : kS ≠ a) (hnk : ∀ p ∈ news, p.1 ≠ kS) (hna : ∀ p ∈ news, p.1 ≠ a)
    (h64 : keys.size < 64) (ho : (arrOf st).map (·.2) = out.toArray) (h65 : out.length < 64) (hfl : failedOf st = none)
    (h : ∀ h' tk c, Fr h₀ L h' m → News h₀ L h' ((a, seqObj "list" out.toArray c) :: news) → P (.done (.ret .none)) { s with heap := h', toks := tk }) :
    wpAny (model prog w) A (ksk_tail a false e1 (.ref kS) st) P E s := by
  have nk := N (kS, seqObj "list" keys e) (List.mem_append_right _ (.head _))
  have na := N (a, seqObj "list" #[] e1) (List.mem_append_right _ (.tail _ (.head _)))
  have Nn : News h₀ L s.heap news := fun p hp => N p (List.mem_append_left _ hp)
  have s1 := Heap.SameBut.update s.heap kS (Obj.mapSeq fun _ => (#[] : Array Value))
  have na1 : (s.heap.update kS (Obj.mapSeq fun _ => (#[] : Array Value))).get? a = some (seqObj "list" #[] e1) := (s1.2 a hka.symm).trans na.1
  have s2 := Heap.SameBut.update (s.heap.update kS (Obj.mapSeq fun _ => (#[] : Array Value))) a (Obj.mapSeq fun _ => out.toArray)
  obtain ⟨c2, hc2⟩ : ∃ c2, ((s.heap.update kS (Obj.mapSeq fun _ => (#[] : Array Value))).update a (Obj.mapSeq fun _ => out.toArray)).get? a = some (seqObj "list" out.toArray c2) :=
    ⟨_, get?_update_seq na1 fun _ => out.toArray⟩
  have N2 := ksk_news (ksk_news Nn s1 hnk) s2 hna
  unfold ksk_tail
  rw [ho]
  simp only [Bool.false_eq_true, if_false]
  refine wpAny_bind (listUpdate_at nk.1 rfl ?_ (by rw [sizeLine_eq]; omega) (Nat.zero_le _))
  refine wpAny_bind (wpAny_letGo ?_)
  refine wpAny_bind (seqEpoch_at na1 rfl ?_)
  refine wpAny_bind (listUpdate_at na1 rfl ?_ (Nat.zero_le _) (by rw [List.size_toArray, sizeLine_eq]; omega))
  rw [hfl]
  simp only [bne_self_eq_false, Bool.false_eq_true, if_false]
  refine wpAny_pure (h _ _ c2 (ksk_fr (ksk_fr F s1 nk.2.1 nk.2.2) s2 na.2.1 na.2.2) (fun p hp => ?_))
  rcases List.mem_cons.mp hp with rfl | hp
  · exact ⟨hc2, na.2⟩
  · exact N2 p hp
theorem srt_end {ko : List (Addr × Obj)} (F : Fr h₀ L s.heap m) (N : News h₀ L s.heap (news ++ (ko ++ [(kS, seqObj "list" (ko.map fun p => Value.ref p.1).toArray e), (a, seqObj "list" #[] e1)]))) (hka : kS ≠ a) (hnk : ∀ p ∈ news, p.1 ≠ kS) (hna : ∀ p ∈ news, p.1 ≠ a)
    (hko : ko.length = vs.length) (hki : ∀ i (hi : i < ko.length) (hv : i < vs.length), KI C vs[i] ko[i].2) (h2 : 2 ≤ vs.length) (h64 : vs.length < 64) (cmp : CmpK prog w A h₀ L m news C vs r s)
    (h : ∀ h' tk c, Fr h₀ L h' m → News h₀ L h' ((a, seqObj "list" (((kev (ans r) (kas_sort vs.length)).toList.map fun i => vs.getD i .none).toArray) c) :: news) → P (.done (.ret .none)) { s with heap := h', toks := tk }) :
    wpAny (model prog w) A (ksk_end a false vs.toArray e1 (.ref kS) (ko.map fun p => Value.ref p.1).toArray) P E s := by
  have hzs : ((ko.map fun p => Value.ref p.1).toArray.zip vs.toArray).size = vs.length := by rw [Array.size_zip, List.size_toArray, List.size_toArray, List.length_map, hko, Nat.min_self]
  have item : ∀ i (hi : i < vs.length), kas_item ((ko.map fun p => Value.ref p.1).toArray.zip vs.toArray) i = (Value.ref (ko[i]'(by omega)).1, vs[i]) := fun i hi => by
    unfold kas_item
    rw [Array.getD_eq_getD_getElem?]
    have hk : i < ko.length := by omega
    simp [List.zip_eq_zipWith, List.getElem?_zipWith, hi, hk]
  unfold ksk_end
  simp only [Bool.false_eq_true, if_false]
  have hn2 : ¬ vs.toArray.size < 2 := by rw [List.size_toArray]; omega
  rw [if_neg hn2, if_neg hn2]
  refine wpAny_bind (kas_kind (T := .ref C) (by rw [List.length_map, hko]; exact h2) (fun v hv => ?_) rfl (by simp) ?_)
  · obtain ⟨p, hp, rfl⟩ := List.mem_map.mp hv
    obtain ⟨i, hi, rfl⟩ := List.mem_iff_getElem.mp hp
    have g := (N ko[i] (List.mem_append_right _ (List.mem_append_left _ hp))).1
    have k := (hki i hi (by omega)).1
    rw [← k]
    exact (Looks.ld g).andThen .now
  have est : SortSt.mk' oneType' ((ko.map fun p => Value.ref p.1).toArray.zip vs.toArray) #[] 7 none = kas_st oneType' ((ko.map fun p => Value.ref p.1).toArray.zip vs.toArray) (List.toArray (List.range vs.length)) := by
    have e := kas_range ((ko.map fun p => Value.ref p.1).toArray.zip vs.toArray)
    rw [hzs] at e
    show _ = SortSt.mk' oneType' ((List.toArray (List.range vs.length)).map (kas_item _)) #[] 7 none
    rw [e]
  rw [est]
  have run := kas_runs (prog := prog) (w := w) (A := A) (E := E) (κ := oneType') (it := (ko.map fun p => Value.ref p.1).toArray.zip vs.toArray) (n := vs.length) (s := s)
    (Q := fun _ st' s' => ∃ (hs : arrOf st' = (kev (ans r) (kas_sort vs.length)).map (kas_item ((ko.map fun p => Value.ref p.1).toArray.zip vs.toArray))), failedOf st' = none ∧ ∃ h' tk', s' = { s with heap := h', toks := tk' } ∧ Fr h₀ L h' m ∧ News h₀ L h' (news ++ (ko ++ [(kS, seqObj "list" (ko.map fun p => Value.ref p.1).toArray e), (a, seqObj "list" #[] e1)])))
    (G := fun p' s' => p' = kev (ans r) (kas_sort vs.length) ∧ ∃ h' tk', s' = { s with heap := h', toks := tk' } ∧ Fr h₀ L h' m ∧ News h₀ L h' (news ++ (ko ++ [(kS, seqObj "list" (ko.map fun p => Value.ref p.1).toArray e), (a, seqObj "list" #[] e1)])))
    h2 h64 (fun p' st' s' _ a2 a3 a4 => ⟨by rw [a2, a4.1], a3, a4.2⟩)
    (kas_eval (N := vs.length) (R := fun _ => True) (I := fun s' => ∃ h' tk', s' = { s with heap := h', toks := tk' } ∧ Fr h₀ L h' m ∧ News h₀ L h' (news ++ (ko ++ [(kS, seqObj "list" (ko.map fun p => Value.ref p.1).toArray e), (a, seqObj "list" #[] e1)]))) (o := ans r)
      (fun i j s' hi hj hI C' hC => ?cmp) (kas_sort vs.length) s (in_sort (by omega)) ⟨_, _, rfl, F, N⟩ fun s' hI => ⟨rfl, hI⟩)
  case cmp =>
    obtain ⟨h', tk', rfl, F', N'⟩ := hI
    unfold kas_cmp
    rw [item i hi, item j hj]
    refine wpAny_mono (cmp i j _ (ko[i]'(by omega)).2 _ (ko[j]'(by omega)).2 h' tk' _ hi hj F' N' (List.mem_append_left _ (List.getElem_mem _)) (List.mem_append_left _ (List.getElem_mem _)) (hki i (by omega) hi) (hki j (by omega) hj)) (fun b s2 hb => ?_) fun _ _ x => x
    obtain ⟨rfl, h3, tk3, rfl, F3, N3⟩ := hb
    exact hC _ ⟨_, _, rfl, F3, N3⟩
  refine wpAny_bind (wpAny_mono run ?_ fun _ _ x => x)
  rintro ⟨⟨⟩, st'⟩ s' ⟨hs, hf, h', tk', rfl, F', N'⟩
  dsimp only
  have hpz := sort_size (r := r) (N := vs.length) (by omega)
  have hout : (arrOf st').map (·.2) = (((kev (ans r) (kas_sort vs.length)).toList.map fun i => vs.getD i .none)).toArray := by
    apply Array.toList_inj.mp
    rw [hs, Array.map_map, Array.toList_map]
    obtain ⟨p, e, P, U⟩ := sort_ok (r := r) (N := vs.length) (by omega)
    refine List.map_congr_left fun i hi => ?_
    have hi' : i < vs.length := by
      have hm : i ∈ List.range vs.length := by
        have := P.pm
        rw [← e, Array.perm_iff_toList_perm] at this
        exact (this.mem_iff.mp hi)
      exact List.mem_range.mp hm
    show (kas_item _ i).2 = _
    rw [item i hi']
    simp [hi']
  refine srt_tail (s := { s with heap := h', toks := tk' }) (e := e) (news := news) (keys := (ko.map fun p => Value.ref p.1).toArray) (out := ((kev (ans r) (kas_sort vs.length)).toList.map fun i => vs.getD i .none)) F' (fun p hp => ?_) hka hnk hna (by rw [List.size_toArray, List.length_map, hko]; exact h64) hout (by rw [List.length_map, Array.length_toList, hpz]; exact h64) hf (fun h3 tk3 c F3 N3 => h h3 tk3 c F3 N3)
  rcases List.mem_append.mp hp with hp | hp
  · exact N' p (List.mem_append_left _ hp)
  · exact N' p (List.mem_append_right _ (List.mem_append_right _ hp))
theorem srt_rest (F : Fr h₀ L s.heap m) (N : News h₀ L s.heap (news ++ [(kS, seqObj "list" #[] 0), (a, seqObj "list" #[] e1)])) (hka : kS ≠ a) (hnk : ∀ p ∈ news, p.1 ≠ kS) (hna : ∀ p ∈ news, p.1 ≠ a)
    (h2 : 2 ≤ vs.length) (h64 : vs.length < 64) (turn : TurnK prog w A h₀ L m news C f vs s) (cmp : CmpK prog w A h₀ L m news C vs r s)
    (h : ∀ h' tk c, Fr h₀ L h' m → News h₀ L h' ((a, seqObj "list" (((kev (ans r) (kas_sort vs.length)).toList.map fun i => vs.getD i .none).toArray) c) :: news) → P (.done (.ret .none)) { s with heap := h', toks := tk }) :
    wpAny (model prog w) A (ksk_rest a f false vs.toArray e1 (.ref kS)) P E s := by
  unfold ksk_rest
  refine wpAny_bind (wpAny_rule ?_)
  rw [List.forIn_toArray]
  refine wpAny_bind (ksk_fold (fun i s' => ∃ h' tk e ko, s' = { s with heap := h', toks := tk } ∧ Fr h₀ L h' m ∧ News h₀ L h' (news ++ (ko ++ [(kS, seqObj "list" (ko.map fun p => Value.ref p.1).toArray e), (a, seqObj "list" #[] e1)])) ∧
      ko.length = i ∧ ∀ j (hj : j < ko.length) (hv : j < vs.length), KI C vs[j] ko[j].2) vs 0 s
    ⟨s.heap, s.toks, 0, [], rfl, F, (by simpa using N), rfl, fun j hj => absurd hj (Nat.not_lt_zero _)⟩ ?step ?done)
  case step =>
    rintro j x s' hx ⟨h', tk, e, ko, rfl, F', N', hl, hk⟩
    simp only [Nat.zero_add] at hl ⊢
    obtain ⟨hj, hxj⟩ := List.getElem?_eq_some_iff.mp hx
    refine wpAny_bind (wpAny_attempt (wpAny_mono (turn x (hxj ▸ List.getElem_mem hj) h' tk _ F' N') (fun v s'' he => ?_) fun _ _ hF => hF.elim))
    obtain ⟨k, o, g, tk2, rfl, rfl, F2, N2, ki⟩ := he
    dsimp only
    have nk := N2 (kS, seqObj "list" (ko.map fun p => Value.ref p.1).toArray e) (.tail _ (List.mem_append_right _ (List.mem_append_right _ (.head _))))
    have na := N2 (a, seqObj "list" #[] e1) (.tail _ (List.mem_append_right _ (List.mem_append_right _ (.tail _ (.head _)))))
    have s1 := Heap.SameBut.update g kS (Obj.mapSeq (·.push (.ref k)))
    obtain ⟨c2, hc2⟩ : ∃ c2, (g.update kS (Obj.mapSeq (·.push (.ref k)))).get? kS = some (seqObj "list" ((ko.map fun p => Value.ref p.1).toArray.push (.ref k)) c2) := ⟨_, get?_update_seq nk.1 (·.push (.ref k))⟩
    have ea : (ko.map fun p => Value.ref p.1).toArray.push (.ref k) = ((ko ++ [(k, o)]).map fun p => Value.ref p.1).toArray := by simp
    have kne : ∀ p ∈ (k, o) :: (news ++ ko), p.1 ≠ kS := fun p hp z => by
      have g1 : g.get? p.1 = some p.2 := by
        rcases List.mem_cons.mp hp with rfl | hp
        · exact (N2 _ (.head _)).1
        · rcases List.mem_append.mp hp with hp | hp
          · exact (N2 p (.tail _ (List.mem_append_left _ hp))).1
          · exact (N2 p (.tail _ (List.mem_append_right _ (List.mem_append_left _ hp)))).1
      rcases List.mem_cons.mp hp with rfl | hp
      · rw [z, nk.1] at g1
        have e2 : _ = o := Option.some.inj g1
        have kc := ki.1
        rw [← e2] at kc
        cases kc
      · rcases List.mem_append.mp hp with hp | hp
        · exact hnk p hp z
        · obtain ⟨i, hi, rfl⟩ := List.mem_iff_getElem.mp hp
          rw [z, nk.1] at g1
          have := Option.some.inj g1
          have kc := (hk i hi (by omega)).1
          rw [← this] at kc
          cases kc
    refine wpAny_bind (listUpdate_at nk.1 rfl ?_ (by rw [List.size_toArray, List.length_map, sizeLine_eq]; omega) (Nat.le_trans (Nat.le_of_eq (Array.size_push ..)) (by rw [List.size_toArray, List.length_map, sizeLine_eq]; omega)))
    rw [ea] at hc2
    refine wpAny_pure ⟨rfl, _, _, c2, ko ++ [(k, o)], rfl, ksk_fr F2 s1 nk.2.1 nk.2.2, fun p hp => ?_, by simp [hl], fun i hi hv => ?_⟩
    · have old : ∀ q, q ∈ (k, o) :: (news ++ ko) → (g.update kS (Obj.mapSeq (·.push (.ref k)))).get? q.1 = some q.2 ∧ q.1 ≠ L ∧ h₀.get? q.1 = none := fun q hq => by
        have hq' : q ∈ (k, o) :: (news ++ (ko ++ [(kS, seqObj "list" (ko.map fun p => Value.ref p.1).toArray e), (a, seqObj "list" #[] e1)])) := by
          rcases List.mem_cons.mp hq with rfl | hq
          · exact .head _
          · rcases List.mem_append.mp hq with hq | hq
            · exact .tail _ (List.mem_append_left _ hq)
            · exact .tail _ (List.mem_append_right _ (List.mem_append_left _ hq))
        exact ⟨(s1.2 q.1 (kne q hq)).trans (N2 q hq').1, (N2 q hq').2⟩
      rcases List.mem_append.mp hp with hp | hp
      · exact old p (.tail _ (List.mem_append_left _ hp))
      · rcases List.mem_append.mp hp with hp | hp
        · rcases List.mem_append.mp hp with hp | hp
          · exact old p (.tail _ (List.mem_append_right _ hp))
          · rw [List.mem_singleton.mp hp]; exact old _ (.head _)
        · rcases List.mem_cons.mp hp with rfl | hp
          · exact ⟨hc2, nk.2⟩
          · rw [List.mem_singleton.mp hp]
            exact ⟨(s1.2 a hka.symm).trans na.1, na.2⟩
    · by_cases hi2 : i < ko.length
      · rw [List.getElem_append_left hi2]
        exact hk i hi2 hv
      · have : i = ko.length := by simp at hi; omega
        subst this
        rw [List.getElem_concat_length rfl]
        subst hl
        rw [hxj]
        exact ki
  case done =>
    rintro s' ⟨h', tk, e, ko, rfl, F', N', hl, hk⟩
    have nk := N' (kS, seqObj "list" (ko.map fun p => Value.ref p.1).toArray e) (List.mem_append_right _ (List.mem_append_right _ (.head _)))
    refine wpAny_bind (listItems_at nk.1 rfl ?_)
    exact srt_end (s := { s with heap := h', toks := tk }) F' N' hka hnk hna (by lia) hk h2 h64 cmp fun h3 tk3 c F3 N3 => h h3 tk3 c F3 N3
theorem srt_sort {n : Nat} (F : Fr h₀ L s.heap m) (N : News h₀ L s.heap news) (ho : s.heap.get? a = some (seqObj "list" vs.toArray n)) (haL : a ≠ L) (ha0 : h₀.get? a = none) (hna : ∀ p ∈ news, p.1 ≠ a)
    (h2 : 2 ≤ vs.length) (h64 : vs.length < 64) (turn : TurnK prog w A h₀ L m news C f vs s) (cmp : CmpK prog w A h₀ L m news C vs r s)
    (h : ∀ h' tk c, Fr h₀ L h' m → News h₀ L h' ((a, seqObj "list" (((kev (ans r) (kas_sort vs.length)).toList.map fun i => vs.getD i .none).toArray) c) :: news) → P (.done (.ret .none)) { s with heap := h', toks := tk }) :
    wpAny (model prog w) A (ksk_tree a f false) P E s := by
  have ha : a < s.heap.objs.size := Heap.lt_size ho
  have s1 := Heap.SameBut.update s.heap a (Obj.mapSeq fun _ => (#[] : Array Value))
  obtain ⟨e1, ho1⟩ : ∃ e1, (s.heap.update a (Obj.mapSeq fun _ => (#[] : Array Value))).get? a = some (seqObj "list" #[] e1) := ⟨_, get?_update_seq ho fun _ => #[]⟩
  have F1 := ksk_fr F s1 haL ha0
  have N1 := ksk_news N s1 hna
  have hkS : ((s.heap.update a (Obj.mapSeq fun _ => (#[] : Array Value))).push (seqObj "tuple" vs.toArray 0)).objs.size = s.heap.objs.size + 1 := by rw [size_push', Heap.size_update]
  have hLk : L < ((s.heap.update a (Obj.mapSeq fun _ => (#[] : Array Value))).push (seqObj "tuple" vs.toArray 0)).objs.size := (F1.push _).ns.lt
  unfold ksk_tree
  refine wpAny_bind (listItems_at ho rfl ?_)
  refine wpAny_bind (listUpdate_at ho rfl ?_ (by rw [List.size_toArray, sizeLine_eq]; omega) (Nat.zero_le _))
  refine wpAny_bind (seqEpoch_at ho1 rfl ?_)
  refine wpAny_bind (wpAny_newTuple ?_ (by show vs.length ≤ _; rw [sizeLine_eq]; omega))
  refine wpAny_bind (wpAny_newList ?_ (Nat.zero_le _))
  refine wpAny_holding ?_
  refine srt_rest (s := { s with heap := ((s.heap.update a (Obj.mapSeq fun _ => (#[] : Array Value))).push (seqObj "tuple" vs.toArray 0)).push (seqObj "list" #[] 0) }) (kS := ((s.heap.update a (Obj.mapSeq fun _ => (#[] : Array Value))).push (seqObj "tuple" vs.toArray 0)).objs.size)
    ((F1.push _).push _) (fun p hp => ?_) (by rw [hkS]; exact Nat.ne_of_gt (Nat.lt_succ_of_lt ha)) (fun p hp => by rw [hkS]; exact Nat.ne_of_lt (Nat.lt_succ_of_lt (Heap.lt_size (N p hp).1))) hna h2 h64 turn cmp h
  rcases List.mem_append.mp hp with hp | hp
  · exact ⟨Heap.get?_push_of_some _ (Heap.get?_push_of_some _ (N1 p hp).1), (N1 p hp).2⟩
  · rcases List.mem_cons.mp hp with rfl | hp
    · exact ⟨Heap.get?_push_size _ rfl, Nat.ne_of_gt hLk, Heap.get?_none_of_le (Nat.le_trans F.above (Nat.le_of_lt hLk))⟩
    · rw [List.mem_singleton.mp hp]
      exact ⟨Heap.get?_push_of_some _ (Heap.get?_push_of_some _ ho1), haL, ha0⟩
end
section
variable {prog : Program} {w : World} {A : Around} {E : Value → Shared → Prop} {s : Shared} {h₀ : Heap} {L l q C : Addr} {m : Str → Option Value} {news : List (Addr × Obj)} {vs : List Value} {Q : Value → Shared → Prop} {r : Nat → Int}
/-- `sorted(xs, key=q)` by own keys: the stable order of the ranks -/
theorem srt_sorted (F : Fr h₀ L s.heap m) (N : News h₀ L s.heap news) (hl : s.heap.IsList l vs.toArray) (h2 : 2 ≤ vs.length) (h64 : vs.length < 64)
    (turn : TurnK prog w A.in1.in1 h₀ L m news C (.ref q) vs s) (cmp : CmpK prog w A.in1.in1 h₀ L m news C vs r s)
    (h : ∀ D h' tk c, Fr h₀ L h' m → News h₀ L h' ((D, seqObj "list" (((kev (ans r) (kas_sort vs.length)).toList.map fun i => vs.getD i .none).toArray) c) :: news) → (∀ x ∈ news, x.1 < D) → Q (.ref D) { s with heap := h', toks := tk }) :
    wpAny (model prog w) A (call (.builtin "sorted") [.ref l] [(Str.ofString "key", .ref q)]) Q E s := by
  refine call_function_entry_kw kind_sorted plain_sorted entry_sorted (ksk_s1 _ _) ?_
  unfold Builtin.«sorted»
  refine wpAny_bind (m := checkCount "sorted" 1 1 _) (wpAny_pure ?_)
  refine wpAny_bind (collect_list hl ?_ (by rw [sizeLine_eq]; omega))
  refine wpAny_bind (wpAny_newList ?_ (by rw [sizeLine_eq]; omega))
  have hsz : ((s.heap.push (seqObj "list" #[] 0)).update s.heap.objs.size (Obj.mapSeq (· ++ vs.toArray))).objs.size = s.heap.objs.size + 1 := by
    rw [Heap.size_update, size_push']
  have hoL : (((s.heap.push (seqObj "list" #[] 0)).update s.heap.objs.size (Obj.mapSeq (· ++ vs.toArray))).push (seqObj "list" vs.toArray 0)).get? (s.heap.objs.size + 1) = some (seqObj "list" vs.toArray 0) := by
    rw [← hsz]; exact Heap.get?_push_size _ rfl
  have keep : ∀ b o, s.heap.get? b = some o → (((s.heap.push (seqObj "list" #[] 0)).update s.heap.objs.size (Obj.mapSeq (· ++ vs.toArray))).push (seqObj "list" vs.toArray 0)).get? b = some o := fun b o q => by
    have hlt : b < s.heap.objs.size := Heap.lt_size q
    rw [Heap.get?_push_ne _ _ _ (by rw [hsz]; exact Nat.ne_of_lt (Nat.lt_succ_of_lt hlt)), Heap.get?_update_ne _ _ _ _ (Nat.ne_of_lt hlt), Heap.get?_push_ne _ _ _ (Nat.ne_of_lt hlt)]
    exact q
  have hL : L < s.heap.objs.size := F.ns.lt
  show wpAny _ _ _ _ _ { s with heap := ((s.heap.push (seqObj "list" #[] 0)).update s.heap.objs.size (Obj.mapSeq (· ++ vs.toArray))).push (seqObj "list" vs.toArray 0) }
  rw [hsz]
  refine wpAny_bind (wpAny_holding (wpAny_call_entry_kw slot_list_sort ⟨_, hoL, rfl⟩ entry_list_sort ?body (ksk_l1 _ _)))
  case body =>
    show wpAny (model prog w) A.in1.in1 (Builtin.«list.sort» ⟨[.ref (s.heap.objs.size + 1)], [(Str.ofString "key", .ref q)]⟩) _ _ _
    rw [ksk_t1]
    refine srt_sort (s := { s with heap := ((s.heap.push (seqObj "list" #[] 0)).update s.heap.objs.size (Obj.mapSeq (· ++ vs.toArray))).push (seqObj "list" vs.toArray 0) })
      (F.kept keep) (N.grown keep) hoL (Nat.ne_of_gt (Nat.lt_succ_of_lt hL)) (Heap.get?_none_of_le (Nat.le_trans F.above (Nat.le_succ_of_le (Nat.le_of_lt hL))))
      (fun p hp => Nat.ne_of_lt (Nat.lt_succ_of_lt (Heap.lt_size (N p hp).1))) h2 h64 turn cmp fun h' tk c F' N' => ⟨_, rfl, ?_⟩
    exact wpAny_pure ⟨_, rfl, h _ h' tk c F' N' (fun x hx => Nat.lt_succ_of_lt (Heap.lt_size (N x hx).1))⟩
end
end
section
theorem clear_Key1 : True := by k_with_none; trivial
open PySem PySem.W PySem.W.X PyProof.Rows
set_option maxRecDepth 100000
set_option maxHeartbeats 8000000
theorem two_of {vs : Array Value} {x : Value} (h : vs[1]? = some x) : ∃ x0 rst, vs = ⟨x0 :: x :: rst⟩ := by
  obtain ⟨l⟩ := vs
  match l, h with
  | [], h => simp at h
  | [_], h => simp at h
  | x0 :: x1 :: rst, h => simp at h; exact ⟨x0, rst, by rw [h]⟩
section
variable {prog : Program} {w : World} {A : Around} {s : Shared} {h₀ : Heap} {L : Addr} {m : Str → Option Value} {news : List (Addr × Obj)}
theorem turn_key (hh : A.handled = none) (hdp : A.depth ≤ 400) (hu : A.units ≤ 500) {K L1 : Addr} {ds : List (Addr × Obj)} {vs : List Value} (kM : KMade w.params L1 K ds) (sub : ∀ p ∈ ds, p ∈ news) (X : (hd.heap_1 w.params).In h₀) : TurnK prog w A h₀ L m news K (.ref K) vs s := by
  obtain ⟨ns, bT, mdA, sl, F0, F1, F2, F3, F4, F5, sa, c0, c1, T, k, md, ha, hd', ta, td, t5, tk, oc0, oc1, nm, ctv0, ctv1, mK, mns, mmd, mF0, mc0, ⟨cc0, vs0, tq0, cd0, cv0⟩, mF1, mc1, co1⟩ := kM
  obtain ⟨x0, rst, rfl⟩ := two_of cv0
  obtain ⟨ocls, odict, odata, oslots⟩ := oc0
  dsimp only at cc0 cd0
  subst cc0 cd0
  intro v hv h t own F N
  have g2 : h.get? 2 = some _ := F.keep _ _ (X 2 _ (by rfl))
  have get : ∀ p ∈ ds, h.get? p.1 = some p.2 := fun p hp => (N p (List.mem_append_left _ (sub p hp))).1
  refine wpAny_wide hh hdp hu (k_new (h := h) (get _ mK) (get _ mns) (get _ mmd) (get _ mF0) (get _ mc0) g2 ?_)
  intro b o h' news' t' M hm hc hs
  have keep : ∀ b o, h.get? b = some o → h'.get? b = some o := fun b o e => M.keep b o e (by simp [away])
  have nb := M.nw _ hm
  refine ⟨b, o, h', t', rfl, rfl, F.kept keep, fun p hp => ?_, hc, hs⟩
  rcases List.mem_cons.mp hp with rfl | hp
  · refine ⟨nb.1, fun e => ?_, ?_⟩
    · obtain ⟨oL, _, _, hL, _⟩ := F.ns
      have e : b = L := e
      have := nb.2
      rw [show (b, o).1 = L from e, hL] at this
      cases this
    · cases z : h₀.get? b with
      | none => rfl
      | some o' =>
        have := F.keep _ _ z
        rw [nb.2] at this
        cases this
  · exact (N.grown keep) p hp
end
end
section
theorem clear_Key2 : True := by k_with_none; trivial
open PySem PySem.W PySem.W.X PyProof.Rows PySem.Calls Builtin Builtin.ObjectAttr Builtin.Getset_descriptor
set_option maxRecDepth 100000
set_option maxHeartbeats 4000000
section
variable {prog : Program} {w : World} {A : Around} {E : Value → Shared → Prop} {s : Shared} {K : Frag} {x C p f : Addr} {ox : Obj} {name : Str} {b : Value}
theorem find_data {M : Model} {h : Heap} {a g : Value} (X : K.In h) (ha : findIn K (.ref C) name = some (some a)) (hg : specialIn K a "__get__" = some (some g)) (hd : takesIn K a = some true) :
    Looks M h (find (.ref x) (.ref C) name) (.bind g a) := by
  have L1 := looks_findIn (M := M) X ha
  have L2 : Looks M h (getOf (some a)) (some g) := looks_specialIn X hg
  have L3 := looks_takesIn (M := M) X hd
  refine L1.andThen (L2.andThen ?_)
  exact (show Looks M h (dataDescriptor? (some a) (some g)) (some (g, a)) from L3.andThen .now).andThen (Looks.tag .now)
theorem get_data {a g : Value} {expr : Bool} {Q : Value → Shared → Prop} (X : K.In s.heap) (hx : s.heap.get? x = some ox) (hc : ox.cls = .ref C) (hga : findIn K (.ref C) "__getattribute__" = some (some (.builtin "object.__getattribute__")))
    (ha : findIn K (.ref C) name = some (some a)) (hg : specialIn K a "__get__" = some (some g)) (hd : takesIn K a = some true) (hk : findIn K (.ref C) "__getattr__" = some none)
    (h : wpAny (model prog w) A.in1 (call g [a, .ref x, .ref C]) (fun v s' => wpAny (model prog w) A (handedOut v) Q E s') (fun e s' => wpAny (model prog w) A (noteIf true (.ref x) (.str name s.toks) e) (fun _ s'' => E e s'') E s') { s with toks := s.toks + 1 }) :
    wpAny (model prog w) A (getAttr (.ref x) name expr) Q E s := by
  obtain ⟨hh, gg, d, t, os⟩ := s
  have L0 : Looks (model prog w) hh (typeOf (.ref x)) (.ref C) := hc ▸ (Looks.ld hx).andThen .now
  have L1 := looks_findIn (M := model prog w) X hga
  unfold getAttr getAttrBy
  refine wpAny_bind (wpAny_mkText (wpAny_holding (wpAny_bind (L0.at (wpAny_bind (L1.at ?_))))))
  show wpAny _ _ (getAttrEveryday _ _ _) _ _ _
  have z : wpAny (model prog w) A.in1 (Builtin.«proto.getattr_hooked» ⟨[.ref x, .str name t], []⟩)
      (fun fin s' => match fin with | .done (.ret v) => wpAny (model prog w) A (handedOut v) Q E s' | _ => False) (fun e s' => wpAny (model prog w) A (noteIf true (.ref x) (.str name t) e) (fun _ s'' => E e s'') E s') ⟨hh, gg, d, t + 1, os⟩ := by
    have L1 := find_data (M := model prog w) (x := x) X ha hg hd
    have L2 := looks_findIn (M := model prog w) X hk
    refine wpAny_bind (wpAny_pure (wpAny_bind (L0.at (wpAny_bind (L1.at (wpAny_bind (L2.at ?_)))))))
    show wpAny _ _ (holding [a] (call g [a, .ref x, .ref C]) >>= ret) _ _ _
    exact wpAny_bind (wpAny_holding (wpAny_mono h (fun v s' z => wpAny_pure z) fun _ _ z => z))
  refine wpAny_bind (wpAny_onRaise (wpAny_runValue (codeAny_builtin F.plainObj_entry_getattr_hooked (wpAny_mono z (fun fin s' z => ?_) fun _ _ z => z))))
  rcases fin with (_ | _ | _ | _) | _ <;> first | exact z | exact z.elim
theorem bound_inst {args : List Value} {Q : Option Value → Shared → Prop} (X : K.In s.heap) (hx : s.heap.get? x = some ox) (hc : ox.cls = .ref C) (hs : findIn K (.ref C) name = some (some (.ref f))) (hf : isFn K (.ref f) = true)
    (h : wpAny (model prog w) A (call (.ref f) (.ref x :: args)) (fun v => Q (some v)) E s) : wpAny (model prog w) A (callSpecialIfBound? (.ref x) name args) Q E s := by
  have L0 : Looks (model prog w) s.heap (typeOf (.ref x)) (.ref C) := hc ▸ (Looks.ld hx).andThen .now
  simp only [callSpecialIfBound?, bindSpecialIfBound?]
  refine wpAny_holding (wpAny_bind (wpAny_bind (wpAny_bind (L0.here ((looks_findIn X hs).here ?_)))))
  refine wpAny_bind (wpAny_askSetting (wpAny_ite ?_))
  have fin : wpAny (model prog w) A (call (.ref f) ([.ref x] ++ args) >>= fun v => pure (some v)) Q E s := wpAny_bind (wpAny_mono h (fun v s' h' => wpAny_pure h') fun _ _ h' => h')
  split
  · exact wpAny_bind ((bind_fn X _ (beq_iff_eq.mp hf)).here (wpAny_pure (by exact fin)))
  · exact wpAny_tryCatch (wpAny_bind ((bind_fn X _ (beq_iff_eq.mp hf)).here (wpAny_pure (by exact fin))))
theorem lt_inst {Q : Bool → Shared → Prop} (hu : A.units < cLine) (X : K.In s.heap) (hx : s.heap.get? x = some ox) (hc : ox.cls = .ref C) (hs : findIn K (.ref C) "__lt__" = some (some (.ref f))) (hf : isFn K (.ref f) = true)
    (h : wpAny (model prog w) A (call (.ref f) [.ref x, b]) (PySem.W.BoolBack Q) E s) : wpAny (model prog w) A (keyLt' oneType' (.ref x) b) Q E s := by
  rw [keyLt'_oneType, oneLt'_eq]
  simp only [if_true]
  refine wpAny_bind (wpAny_cRoomFor hu ?_)
  refine wpAny_bind (bound_inst X hx hc hs hf (wpAny_mono h (fun v s' hv => ?_) fun _ _ e => e))
  cases v <;> first | exact hv.elim | skip
  exact wpAny_truthy_bool hv
theorem slot_read {tp v : Value} {i : Nat} {R : Result → Shared → Prop} (X : K.In s.heap) (hx : s.heap.get? x = some ox) (hcl : ox.cls = .ref C) (hp : slotIn K p C = some i) (hv : (ox.slots[i]?).join = some v)
    (h : R (.ok (.ret v)) s) : codeAny (model prog w) A (.call (.builtin "member_descriptor.__get__") ⟨[.ref p, .ref x, tp], []⟩) R s := by
  obtain ⟨n, tn, owner, behind, tb, d, sl, cd, ho, hc, hm, hb, rfl⟩ := slot_of X hp
  obtain ⟨hh, g, dr, t, os⟩ := s
  dsimp only at ho hx
  have L0 : Looks (model prog w) hh (typeOf (.ref x)) (.ref C) := hcl ▸ (Looks.ld hx).andThen .now
  have L1 := looks_mroIn (M := model prog w) X hm
  have L2 : Looks (model prog w) hh (Slots.slotNamesOf (.ref C)) cd.slotNames := (looks_clsIn X hc).andThen .now
  dsimp only at L0 L1
  have f0 := looks_field (M := model prog w) ho 0 (v := .str n tn) rfl
  have f1 := looks_field (M := model prog w) ho 1 (v := owner) rfl
  have f2 := looks_field (M := model prog w) ho 2 (v := .builtin "proto.slot") rfl
  have f4 := looks_field (M := model prog w) ho 4 (v := .int behind tb) rfl
  refine codeAny_call_builtin KF.slot_mem.plain KF.entry_mem (KF.slot_mem.check _ _ _ _ _ _ _ _ ⟨_, ho, rfl⟩ (KF.args_mem _ _ _) ?_)
  unfold Builtin.«member_descriptor.__get__» descrGet
  rw [dga_obj]
  refine wpAny_bind (wpAny_pure ?_)
  unfold descrGetter descrCheckInstance descrNameAndClass isInstance
  repeat lk
  refine ⟨Code.quiet_builtin _ (by decide +kernel), codeAny_builtin KF.entry_slot ?_⟩
  unfold Builtin.«proto.slot» Slots.target
  repeat lk
  rw [if_neg hb]
  repeat lk
  rw [hv]
  exact wpAny_pure h
end
end
section
theorem clear_Key3 : True := by k_with_none; trivial
open PySem PySem.W PySem.W.X PyProof.Rows
set_option maxRecDepth 100000
set_option maxHeartbeats 4000000
section
variable {K ns mdA F1 bT : Addr} {tk t4 t5 : Tok} {oN oF : Obj}
noncomputable abbrev kk (K ns mdA F1 bT : Addr) (tk t4 t5 : Tok) (oN oF : Obj) : Frag := [(K, kObj K ns bT tk t4), (ns, oN), (mdA, mdObj K t5), (F1, oF)]
theorem kk_1 : (kk K ns mdA F1 bT tk t4 t5 oN oF).lookup K = some (kObj K ns bT tk t4) := by simp [kk, List.lookup]
theorem kk_2 (h : ns ≠ K) : (kk K ns mdA F1 bT tk t4 t5 oN oF).lookup ns = some oN := by
  simp [kk, List.lookup, beq_eq_false_iff_ne.mpr h]
theorem kk_3 (h1 : mdA ≠ K) (h2 : mdA ≠ ns) : (kk K ns mdA F1 bT tk t4 t5 oN oF).lookup mdA = some (mdObj K t5) := by
  simp [kk, List.lookup, beq_eq_false_iff_ne.mpr h1, beq_eq_false_iff_ne.mpr h2]
theorem kk_4 (h1 : F1 ≠ K) (h2 : F1 ≠ ns) (h3 : F1 ≠ mdA) : (kk K ns mdA F1 bT tk t4 t5 oN oF).lookup F1 = some oF := by
  simp [kk, List.lookup, beq_eq_false_iff_ne.mpr h1, beq_eq_false_iff_ne.mpr h2, beq_eq_false_iff_ne.mpr h3]
theorem kk_in {h : Heap} (g1 : h.get? K = some (kObj K ns bT tk t4)) (g2 : h.get? ns = some oN) (g3 : h.get? mdA = some (mdObj K t5)) (g4 : h.get? F1 = some oF) : (kk K ns mdA F1 bT tk t4 t5 oN oF).In h := fun a o e => by
  simp only [kk, List.lookup] at e
  split at e
  · rename_i q; cases e; rw [beq_iff_eq.mp q]; exact g1
  · split at e
    · rename_i q; cases e; rw [beq_iff_eq.mp q]; exact g2
    · split at e
      · rename_i q; cases e; rw [beq_iff_eq.mp q]; exact g3
      · split at e
        · rename_i q; cases e; rw [beq_iff_eq.mp q]; exact g4
        · cases e
variable {T : Nat → Tok} {k : Nat → Int} {md : Str} {sl fI fL fG fE fl fg sa mdB : Addr} {ha hd' : Int} {ta td : Tok} {n : Nat}
theorem kk_ns {name : Str} {r : Option Value} (h : ns ≠ K) (hn : nsIn [(ns, oN)] ns name = some r) : nsIn (kk K ns mdA F1 bT tk t4 t5 oN oF) ns name = some r := by
  unfold nsIn at hn ⊢
  rw [kk_2 h]
  rw [show List.lookup ns [(ns, oN)] = some oN by simp [List.lookup]] at hn
  exact hn
theorem kk_own {name : Str} {v : Value} (h : ns ≠ K) (hn : nsIn [(ns, oN)] ns name = some (some v)) : findIn (kk K ns mdA F1 bT tk t4 t5 oN oF) (.ref K) name = some (some v) := by
  unfold findIn
  dsimp only
  rw [kk_1]
  show alongIn _ name [.ref K, .type "object"] = _
  unfold alongIn ownIn
  dsimp only
  rw [kk_1]
  show (match nsIn _ ns name with | some (some v) => some (some v) | some none => _ | none => none) = _
  rw [kk_ns h hn]
theorem kk_base {name : Str} {r : Option Value} (h : ns ≠ K) (hn : nsIn [(ns, oN)] ns name = some none) (hb : alongIn [] name [.type "object"] = some r) : findIn (kk K ns mdA F1 bT tk t4 t5 oN oF) (.ref K) name = some r := by
  unfold findIn
  dsimp only
  rw [kk_1]
  show alongIn _ name [.ref K, .type "object"] = _
  rw [alongIn]
  have : ownIn (kk K ns mdA F1 bT tk t4 t5 oN oF) name (.ref K) = some none := by
    unfold ownIn
    dsimp only
    rw [kk_1]
    exact kk_ns h hn
  rw [this]
  exact hb
variable {T : Nat → Tok} {k : Nat → Int} {md : Str} {sl fI fL fG fE fl fg sa mdB : Addr} {ha hd' : Int} {ta td : Tok} {n : Nat}
theorem d_lt : nsIn [(ns, dictOf (nsF T k md sl fI fL fG fE fl fg sa mdB ha hd' ta td) n)] ns "__lt__" = some (some (.ref fL)) := by
  unfold nsIn
  rw [show List.lookup ns [(ns, dictOf (nsF T k md sl fI fL fG fE fl fg sa mdB ha hd' ta td) n)] = some (dictOf (nsF T k md sl fI fL fG fE fl fg sa mdB ha hd' ta td) n) by simp [List.lookup]]
  kernel_rfl!
theorem d_obj : nsIn [(ns, dictOf (nsF T k md sl fI fL fG fE fl fg sa mdB ha hd' ta td) n)] ns "obj" = some (some (.ref mdB)) := by
  unfold nsIn
  rw [show List.lookup ns [(ns, dictOf (nsF T k md sl fI fL fG fE fl fg sa mdB ha hd' ta td) n)] = some (dictOf (nsF T k md sl fI fL fG fE fl fg sa mdB ha hd' ta td) n) by simp [List.lookup]]
  kernel_rfl!
theorem d_ga : nsIn [(ns, dictOf (nsF T k md sl fI fL fG fE fl fg sa mdB ha hd' ta td) n)] ns "__getattribute__" = some none := by
  unfold nsIn
  rw [show List.lookup ns [(ns, dictOf (nsF T k md sl fI fL fG fE fl fg sa mdB ha hd' ta td) n)] = some (dictOf (nsF T k md sl fI fL fG fE fl fg sa mdB ha hd' ta td) n) by simp [List.lookup]]
  kernel_rfl!
theorem d_gt : nsIn [(ns, dictOf (nsF T k md sl fI fL fG fE fl fg sa mdB ha hd' ta td) n)] ns "__getattr__" = some none := by
  unfold nsIn
  rw [show List.lookup ns [(ns, dictOf (nsF T k md sl fI fL fG fE fl fg sa mdB ha hd' ta td) n)] = some (dictOf (nsF T k md sl fI fL fG fE fl fg sa mdB ha hd' ta td) n) by simp [List.lookup]]
  kernel_rfl!
theorem b_ga : alongIn [] "__getattribute__" [.type "object"] = some (some (.builtin "object.__getattribute__")) := by kernel_rfl!
theorem b_gt : alongIn [] "__getattr__" [.type "object"] = some none := by kernel_rfl!
theorem kk_fn (h1 : F1 ≠ K) (h2 : F1 ≠ ns) (h3 : F1 ≠ mdA) (hc : oF.cls = .type "function") : isFn (kk K ns mdA F1 bT tk t4 t5 oN oF) (.ref F1) = true := by
  unfold isFn typeIn
  dsimp only
  rw [kk_4 h1 h2 h3]
  simp [hc]
theorem kk_get (h1 : mdA ≠ K) (h2 : mdA ≠ ns) : specialIn (kk K ns mdA F1 bT tk t4 t5 oN oF) (.ref mdA) "__get__" = some (some (.builtin "member_descriptor.__get__")) := by
  unfold specialIn typeIn
  dsimp only
  rw [kk_3 h1 h2]
  show fastLookup "member_descriptor" "__get__" = _
  kernel_rfl!
theorem kk_set (h1 : mdA ≠ K) (h2 : mdA ≠ ns) : takesIn (kk K ns mdA F1 bT tk t4 t5 oN oF) (.ref mdA) = some true := by
  have : specialIn (kk K ns mdA F1 bT tk t4 t5 oN oF) (.ref mdA) "__set__" = some (some (.builtin "member_descriptor.__set__")) := by
    unfold specialIn typeIn
    dsimp only
    rw [kk_3 h1 h2]
    show fastLookup "member_descriptor" "__set__" = _
    kernel_rfl!
  unfold takesIn
  rw [this]
theorem kk_slot (h1 : mdA ≠ K) (h2 : mdA ≠ ns) : slotIn (kk K ns mdA F1 bT tk t4 t5 oN oF) mdA K = some 0 := by
  have r : recIn (kk K ns mdA F1 bT tk t4 t5 oN oF) mdA "member_descriptor" = some [.str "obj" t5, .ref K, .builtin "proto.slot", .builtin "proto.slot#set", .int 0 0] := by
    unfold recIn
    rw [kk_3 h1 h2]
    rfl
  have c : clsIn (kk K ns mdA F1 bT tk t4 t5 oN oF) K = some (kData K ns) := by
    unfold clsIn
    rw [kk_1]
  unfold slotIn
  rw [r, c]
  simp [kData]
section
variable {prog : Program} {w : World} {A : Around} {E : Value → Shared → Prop} {s : Shared} {x : Addr} {ox : Obj} {v : Value}
/-- the attribute `obj` of a key -/
theorem key_obj {expr : Bool} {Q : Value → Shared → Prop} (g1 : s.heap.get? K = some (kObj K ns bT tk t4)) (g2 : s.heap.get? ns = some (dictOf (nsF T k md sl fI fL fG fE fl fg sa mdA ha hd' ta td) n)) (g3 : s.heap.get? mdA = some (mdObj K t5)) (g4 : s.heap.get? F1 = some oF)
    (h0 : ns ≠ K) (h1 : mdA ≠ K) (h2 : mdA ≠ ns) (hx : s.heap.get? x = some ox) (kI : KI K v ox) (hh : handedIn v = true) (h : Q v { s with toks := s.toks + 1 }) : wpAny (model prog w) A (getAttr (.ref x) "obj" expr) Q E s :=
  get_data (kk_in g1 g2 g3 g4) hx kI.1 (kk_base h0 d_ga b_ga) (kk_own h0 d_obj) (kk_get h1 h2) (kk_set h1 h2) (kk_base h0 d_gt b_gt)
    (wpAny_call (slot_read (s := { s with toks := s.toks + 1 }) (kk_in g1 g2 g3 g4) hx kI.1 (kk_slot h1 h2) (by rw [kI.2]; rfl) (handed_on hh h)))
end
end
end
section
theorem clear_Key4 : True := by k_with_none; trivial
open PySem PySem.Calls PySem.W PyProof.Rows PySem.Spec
set_option maxRecDepth 100000
set_option maxHeartbeats 8000000
theorem fill12 : True := by
  have h2 : (hd.heap_1 = hd.heap_1 ∧ PySem.Challenge.rw_mq0203_01 = PySem.Challenge.rw_mq0203_01) → True := fun _ => trivial
  apply h2
  k_fill
  exact ⟨rfl, rfl⟩
theorem asEq {α : Type} {a b : α} (h : a = b) : a = b := h
noncomputable def Stop2 (P : Prop) : Prop := P
theorem stop_mark2 {P : Prop} (h : Stop2 P) : P := h
theorem stop_mk2 {K P : Prop} (_ : K) (h : Stop2 P) : P := h
theorem lyne_Key4_1 : True := by
  k_with "k_dflt_done!" => first | with_reducible assumption | with_reducible exact List.mem_cons_self | (with_reducible refine List.mem_cons_of_mem _ ?_; k_dflt done)
  trivial
section
variable {prog : Program} {w : World} {A : Around} {E : Value → Shared → Prop} {s : Shared} {h₀ : Heap} {L : Addr} {news : List (Addr × Obj)}
variable {K ns mdA F1 bT : Addr} {tk t4 t5 : Tok} {oF : Obj} {T : Nat → Tok} {k : Nat → Int} {md : Str} {sl fI fL fG fE fl fg sa : Addr} {ha hd' : Int} {ta td : Tok} {n : Nat} {x : Addr} {ox : Obj} {v : Value}
theorem key_ne {h : Heap} (N : News h₀ L h news) (m1 : (K, kObj K ns bT tk t4) ∈ news) (m2 : (ns, dictOf (nsF T k md sl fI fL fG fE fl fg sa mdA ha hd' ta td) n) ∈ news) (m3 : (mdA, mdObj K t5) ∈ news) : ns ≠ K ∧ mdA ≠ K ∧ mdA ≠ ns := by
  refine ⟨fun e => ?_, fun e => ?_, fun e => ?_⟩
  · have a := (N _ m1).1
    have b := (N _ m2).1
    dsimp only at a b
    rw [e, a] at b
    exact absurd (Value.type.inj (congrArg Obj.cls (Option.some.inj b))) (by decide)
  · have a := (N _ m1).1
    have b := (N _ m3).1
    dsimp only at a b
    rw [e, a] at b
    exact absurd (Value.type.inj (congrArg Obj.cls (Option.some.inj b))) (by decide)
  · have a := (N _ m2).1
    have b := (N _ m3).1
    dsimp only at a b
    rw [e, a] at b
    exact absurd (Value.type.inj (congrArg Obj.cls (Option.some.inj b))) (by decide)
theorem cls_ne {h : Heap} {x y : Addr} {ox oy : Obj} {a b : String} (N : News h₀ L h news) (mx : (x, ox) ∈ news) (my : (y, oy) ∈ news) (hab : a ≠ b) (ha : ox.cls = .type a := by rfl) (hb : oy.cls = .type b := by rfl) : x ≠ y := fun e => by
  have p := (N _ mx).1
  have q := (N _ my).1
  dsimp only at p q
  rw [e, q] at p
  have r := congrArg Obj.cls (Option.some.inj p)
  rw [ha, hb] at r
  exact hab (Value.type.inj r).symm
theorem key_objN {expr : Bool} {Q : Value → Shared → Prop} (N : News h₀ L s.heap news) (m1 : (K, kObj K ns bT tk t4) ∈ news) (m2 : (ns, dictOf (nsF T k md sl fI fL fG fE fl fg sa mdA ha hd' ta td) n) ∈ news) (m3 : (mdA, mdObj K t5) ∈ news) (m4 : (F1, oF) ∈ news)
    (hx : (x, ox) ∈ news) (kI : KI K v ox) (hh : handedIn v = true) (h : Q v { s with toks := s.toks + 1 }) : wpAny (model prog w) A (getAttr (.ref x) "obj" expr) Q E s := by
  obtain ⟨h0, h1, h2⟩ := key_ne N m1 m2 m3
  exact key_obj (N _ m1).1 (N _ m2).1 (N _ m3).1 (N _ m4).1 h0 h1 h2 (N _ hx).1 kI hh h
end
theorem line_Key4_1 : True := by
  k_with "eval Name!" => (k_here; (with_reducible show wpAny _ _ (eval (Expr.Name (Str.ofString "mycmp") _) _) _ _ _); k_dflt (refine' nameX_F ?N ?c ?m ?d ?_ ?a ?b; (case a => rfl); (case b => rfl); (case N => k_asm); (case c => rfl); (case m => k_mem); (case d => assumption); k_whole))
  trivial
theorem line_Key4_2 : True := by
  k_with "callWith ref!" => (k_here; k_dflt (refine' callWith_F ?k1 ?_; (case k1 => exact hfn (by k_asm) (by k_asm) (by k_asm) (fun q hq => List.mem_cons_of_mem _ (List.mem_cons_of_mem _ (List.mem_cons_of_mem _ (sub2 q hq))))); k_whole))
  trivial
theorem line_Key4_3 : True := by
  k_with "And!" => (refine ⟨hfn (by k_asm) (by k_asm) (by k_asm) (fun q hq => List.mem_cons_of_mem _ (List.mem_cons_of_mem _ (List.mem_cons_of_mem _ (sub2 q hq)))), ?_⟩; try dsimp only [List.nil_append, List.cons_append])
  trivial
theorem line_Key4_4 : True := by
  k_with "getAttr!" => (k_here; k_dflt (refine' key_objN ?N ?m1 ?m2 ?m3 ?m4 ?hx ?kI ?hh ?_; (case N => k_asm); (case hx => k_dflt done); (case kI => assumption); (case m1 => k_dflt done); (case m2 => k_dflt done); (case m3 => k_dflt done); (case m4 => exact List.mem_cons_self); (case hh => rfl)))
  trivial
theorem line_Key4_5 : True := by
  k_with "call ref!" => (refine stop_mark2 ?_)
  trivial
section
variable {w : World} {p : Program} {loose : List Str} {mean : ExcName → Option Value} {mg mb : Str → Option Value} {dp un : Nat} {gd : Option (List Code)} {cn : Str} {cs : Scope} {a : Addr} {ccd : Value} {cl : List (Str × Addr)} {outer : List Env} {A₀ : Around} {base h₀ : Heap} {L : Addr} {m : Str → Option Value} {news : List (Addr × Obj)} {s : Shared}
set_option pp.deepTerms false
set_option pp.deepTerms.threshold 5
theorem cmp_key {K L1 f' : Addr} {ds : List (Addr × Obj)} {oc : Obj} {vs : List Value} {r : Nat → Int} {nd nu : Nat} (kM : KMade w.params L1 K ds) (sub : ∀ p ∈ ds, p ∈ news) (moc : (L1 + 1, oc) ∈ news) (dOc : oc.data = .cell (some (.ref f')))
    (hv : ∀ v ∈ vs, ∃ a, v = .ref a)
    (hfn : ∀ {g h : Heap} {L : Addr} {m : Str → Option Value} {l : List (Addr × Obj)}, News g L h l → Fr g L h m → (hd.heap_1 w.params).In g → (∀ q ∈ news, q ∈ l) → FnAt f' h)
    (hc : ∀ i j, (hi : i < vs.length) → (hj : j < vs.length) → CallK w nd nu (.ref f') [vs[i], vs[j]] (fun l => ∀ q ∈ news, q ∈ l) (fun x fresh => ∃ t, x = .int (r i - r j) t))
    (B : Below A₀ base outer h₀) (X : (hd.heap_1 w.params).In h₀) (T : Top p loose mean mg mb h₀) (hk : cs.kind = .function) (hdp : dp + nd + 1 < recursionLimit) (hun : un + nu + 8 < cLine) :
    CmpK PySem.Challenge.rw_mq0203_01.prog w (ktrTop dp un gd cn cs L a ccd cl outer) h₀ L m news K vs r s := by
  obtain ⟨ns, bT, mdA, sl, F0, F1, F2, F3, F4, F5, sa, c0, c1, T', k, md, ha, hd', ta, td, t5, tk, oc0, oc1, nm, ctv0, ctv1, mK, mns, mmd, mF0, mc0, co0, mF1, mc1, ⟨cc1, vs1, tq1, cd1, cv1⟩⟩ := kM
  have mF1 := (id mF1 : (F1, fnMade "__lt__" "cmp_to_key.<locals>.K.__lt__" (dPar (kDef w.params 3)) (dBody (kDef w.params 3)) (dScope (kDef w.params 3)) [(("mycmp" : Str), L1 + 1)] _ _ _ _) ∈ _)
  have eS := asEq (a := Scope.mk .function [_, _, _] false false []) (b := dScope (kDef w.params 3)) rfl
  have eP := asEq (a := Arguments.mk [] [_, _] none [] [] none []) (b := dPar (kDef w.params 3)) rfl
  have eB := asEq (a := [_]) (b := dBody (kDef w.params 3)) rfl
  rw [← eS, ← eP, ← eB] at mF1
  clear eS eP eB
  intro i j ki oi kj oj h tkh own hi hj F N mi mj kIi kIj
  have up : ∀ p ∈ ds, p ∈ news ++ own := fun p hp => List.mem_append_left _ (sub p hp)
  have m1 := up _ mK
  have m2 := up _ mns
  have m3 := up _ mmd
  have m4 := up _ mF1
  have m5 := up _ mc1
  have m6 := List.mem_append_left own moc
  have m7 := List.mem_append_right news mi
  have m8 := List.mem_append_right news mj
  have hcc := hc i j hi hj
  have sub2 : ∀ p ∈ news, p ∈ news ++ own := fun p hp => List.mem_append_left _ hp
  obtain ⟨ai, ei⟩ := hv _ (List.getElem_mem hi)
  obtain ⟨aj, ej⟩ := hv _ (List.getElem_mem hj)
  rw [ei] at kIi hcc
  rw [ej] at kIj hcc
  generalize hT9 : news ++ own = T9 at N m1 m2 m3 m4 m5 m6 m7 m8 sub2 ⊢
  clear mK mns mmd mF0 mc0 co0 mF1 mc1 sub up moc mi mj hc
  obtain ⟨h0, h1, h2⟩ := key_ne N m1 m2 m3
  have hne : F1 ≠ K ∧ F1 ≠ ns ∧ F1 ≠ mdA := ⟨cls_ne (a := "function") (b := "type") N m4 m1 (by decide), cls_ne (a := "function") (b := "dict") N m4 m2 (by decide), cls_ne (a := "function") (b := "member_descriptor") N m4 m3 (by decide)⟩
  refine lt_inst (K := kk K ns mdA F1 bT tk (T' 4) t5 _ _) ?hu (kk_in (N _ m1).1 (N _ m2).1 (N _ m3).1 (N _ m4).1) (N _ m7).1 kIi.1 (kk_own h0 d_lt) (kk_fn hne.1 hne.2.1 hne.2.2 rfl) ?_
  case hu => ktr_units
  have N2 : News h₀ L h ((F1, _) :: (c1, oc1) :: (L1 + 1, oc) :: T9) := N.perm fun q hq => by
    rcases List.mem_cons.mp hq with rfl | hq
    · exact m4
    · rcases List.mem_cons.mp hq with rfl | hq
      · exact m5
      · rcases List.mem_cons.mp hq with rfl | hq
        · exact m6
        · exact hq
  clear N
  refine wpAny_call ?_
  (refine' code_nest ?k1 ?k2 ?k3 ?k4 ?k5 ?kA ?kF ?kK ?k6 ?k7 ?k8 ?k9 ?kB ?_ ?c2 ?c3 ?c4 ?c5; (case kA => exact rfl); (case kF => exact rfl); (case kK => assumption); (case k1 => k_asm); (case k2 => k_asm); (case k3 => k_asm); (case k4 => k_asm); (case k5 => k_asm); (case k6 => k_mem); (case k7 => exact codeRec_news (by k_asm) (by k_mem) (by assumption) (by assumption)); (case k8 => ktr_room); (case k9 => exact BindsTo.of_eq rfl); (case c5 => decide); (case kB => exact locs rfl); (case c2 => exact rfl); (case c3 => exact rfl); (case c4 => exact rfl); k_whole; intro g' L' h' FG' F' N' B' X' T'; (try dsimp only); (try k_lift B'); (try k_fold))
  k_steps
  unfold Stop2
  k_dflt (refine' hcc ?B ?F ?X ?N ?T ?hk ?hd ?hu ?P ?_)
  case B => k_asm
  case F => k_asm
  case X => k_asm
  case N => k_asm
  case T => k_asm
  case hk => rfl
  case hd => simp only [ktrTop]; omega
  case hu => first | ktr_units | (simp only [ktrTop]; omega)
  case P => exact fun q hq => List.mem_cons_of_mem _ (List.mem_cons_of_mem _ (List.mem_cons_of_mem _ (sub2 q hq)))
  rintro x fresh h9 tk9 F9 N9 lt9 ⟨t9, rfl⟩
  k_steps
  · exact decide_eq_decide.mpr (by omega)
  · k_asm
  · refine News.perm (by k_asm) (fun q hq => ?_)
    repeat' first | exact hq | exact List.mem_append_right _ (List.mem_cons_of_mem _ (List.mem_cons_of_mem _ (List.mem_cons_of_mem _ hq))) | apply List.mem_cons_of_mem
end
end
section
theorem clear_Key5 : True := by k_with_none; trivial
open PySem PySem.Calls PySem.W PyProof.Rows PySem.Spec
set_option maxRecDepth 100000
set_option maxHeartbeats 8000000
section
variable {w : World} {p : Program} {loose : List Str} {mean : ExcName → Option Value} {mg mb : Str → Option Value} {dp un : Nat} {gd : Option (List Code)} {cn : Str} {cs : Scope} {a : Addr} {ccd : Value} {cl : List (Str × Addr)} {outer : List Env} {A₀ : Around} {base h₀ : Heap} {L : Addr} {m : Str → Option Value} {news : List (Addr × Obj)} {s : Shared} {Q E : Value → Shared → Prop}
theorem sort_key {K L1 f' l : Addr} {ds : List (Addr × Obj)} {oc : Obj} {vs : List Value} {r : Nat → Int} {nd nu : Nat} (F : Fr h₀ L s.heap m) (N : News h₀ L s.heap news) (hl : s.heap.IsList l vs.toArray) (h2 : 2 ≤ vs.length) (h64 : vs.length < 64)
    (kM : KMade w.params L1 K ds) (sub : ∀ p ∈ ds, p ∈ news) (moc : (L1 + 1, oc) ∈ news) (dOc : oc.data = .cell (some (.ref f')))
    (hv : ∀ v ∈ vs, ∃ a, v = .ref a)
    (hfn : ∀ {g h : Heap} {L : Addr} {m : Str → Option Value} {l : List (Addr × Obj)}, News g L h l → Fr g L h m → (hd.heap_1 w.params).In g → (∀ q ∈ news, q ∈ l) → FnAt f' h)
    (hc : ∀ i j, (hi : i < vs.length) → (hj : j < vs.length) → CallK w nd nu (.ref f') [vs[i], vs[j]] (fun l => ∀ q ∈ news, q ∈ l) (fun x fresh => ∃ t, x = .int (r i - r j) t))
    (B : Below A₀ base outer h₀) (X : (hd.heap_1 w.params).In h₀) (T : Top p loose mean mg mb h₀) (hk : cs.kind = .function) (hdp : dp + nd + 1 < recursionLimit) (hun : un + 2 + nu + 8 < cLine) (hd1 : dp ≤ 400) (hu1 : un + 2 ≤ 500)
    (h : ∀ D h' tk c, Fr h₀ L h' m → News h₀ L h' ((D, seqObj "list" (((kev (ans r) (kas_sort vs.length)).toList.map fun i => vs.getD i .none).toArray) c) :: news) → (∀ x ∈ news, x.1 < D) → Q (.ref D) { s with heap := h', toks := tk }) :
    wpAny (model PySem.Challenge.rw_mq0203_01.prog w) (ktrTop dp un gd cn cs L a ccd cl outer) (call (.builtin "sorted") [.ref l] [(Str.ofString "key", .ref K)]) Q E s := by
  have hcmp : CmpK PySem.Challenge.rw_mq0203_01.prog w (ktrTop dp (un + 2) gd cn cs L a ccd cl outer) h₀ L m news K vs r s := cmp_key kM sub moc dOc hv hfn hc B X T hk hdp hun
  exact srt_sorted F N hl h2 h64 (turn_key (A := (ktrTop dp (un + 2) gd cn cs L a ccd cl outer)) rfl hd1 hu1 kM sub X) hcmp h
end
end
section
theorem clear_Two : True := by k_with_none; trivial
open PySem PySem.Calls PySem.W PyProof.Rows PySem.Spec
set_option maxHeartbeats 4000000
section
variable {prog : Program} {w : World} {A : Around} {E : Value → Shared → Prop} {R : Result → Shared → Prop} {s : Shared}
theorem two_turn1 (elt iter0 iter1 ct : Expr) (x y : Str) (px py : Pos) (scope : Scope) (pos : Pos) (it acc : Value) (env : Env) :
    compTurn (.ListComp elt [⟨.Name x px, iter0, [], 0⟩, ⟨.Name y py, iter1, [ct], 0⟩] scope pos) 1 it acc env = (do
      standAt iter1.pos
      match ← pyNext it with
      | none => pure (.done .next)
      | some v =>
        letOwnedTupleGo (.Name y py) it v
        assign (.Name y py) env v
        let mut ok := true
        for c in [ct] do
          if ok then ok ← isTrue c env (eval c env)
        if ok then
          (do let _ ← call (.builtin "list.append") [acc, ← eval elt env])
        again (.compLoop (.ListComp elt [⟨.Name x px, iter0, [], 0⟩, ⟨.Name y py, iter1, [ct], 0⟩] scope pos) 1 it acc env)) := by rfl
theorem two_turn0 (elt iter0 iter1 ct : Expr) (x y : Str) (px py : Pos) (scope : Scope) (pos : Pos) (it acc : Value) (env : Env) :
    compTurn (.ListComp elt [⟨.Name x px, iter0, [], 0⟩, ⟨.Name y py, iter1, [ct], 0⟩] scope pos) 0 it acc env = (do
      standAt iter0.pos
      match ← pyNext it with
      | none => pure (.done .next)
      | some v =>
        letOwnedTupleGo (.Name x px) it v
        assign (.Name x px) env v
        let z ← eval iter1 env
        standAt iter1.pos
        let z ← foldedSetIterable iter1 env z
        let _ ← runOwn (.compStart (.ListComp elt [⟨.Name x px, iter0, [], 0⟩, ⟨.Name y py, iter1, [ct], 0⟩] scope pos) 1 (← holding [z] (pyIter z)) acc env) env
        again (.compLoop (.ListComp elt [⟨.Name x px, iter0, [], 0⟩, ⟨.Name y py, iter1, [ct], 0⟩] scope pos) 0 it acc env)) := by rfl
theorem two_start {elt target iter target1 iter1 : Expr} {ifs ifs1 : List Expr} {scope : Scope} {pos : Pos} {it acc : Value} {env : Env}
    (h0 : codeAny (model prog w) A (.compLoop (.ListComp elt [⟨target, iter, ifs, 0⟩, ⟨target1, iter1, ifs1, 0⟩] scope pos) 1 it acc env) R s)
    (h : wpAny (model prog w) A (pyIter it) (fun it' s' => codeAny (model prog w) A (.compLoop (.ListComp elt [⟨target, iter, ifs, 0⟩, ⟨target1, iter1, ifs1, 0⟩] scope pos) 1 it' acc env) R s')
      (notedBy (model prog w) A env fun x s' => R (.error x) s') s) :
    codeAny (model prog w) A (.compStart (.ListComp elt [⟨target, iter, ifs, 0⟩, ⟨target1, iter1, ifs1, 0⟩] scope pos) 1 it acc env) R s := by
  refine codeAny_of_tree ?_
  show wpAny _ _ ((compStart (.ListComp elt [⟨target, iter, ifs, 0⟩, ⟨target1, iter1, ifs1, 0⟩] scope pos) 1 it acc env).onRaise (fun x => do noteFrame x env; standAt theWindowsPlace)) _ _ s
  refine wpAny_notedAt ?_
  unfold compStart
  show wpAny _ _ (ask >>= _) _ _ s
  refine wpAny_bind (wpAny_askSetting (wpAny_ite ?_))
  split
  · first
      | exact wpAny_bind (wpAny_pure (wpAny_pure (And.intro rfl h0)))
      | exact wpAny_pure (And.intro rfl h0)
  · first
      | exact wpAny_bind (wpAny_rule (wpAny_bind (wpAny_standAt (wpAny_bind (wpAny_mono h (fun it' s' h' => wpAny_pure (And.intro rfl h')) fun _ _ x => x)))))
      | (refine wpAny_bind (wpAny_rule ?_); show wpAny _ _ (standAt iter1.pos >>= _) _ _ s; exact wpAny_bind (wpAny_standAt (wpAny_bind (wpAny_mono h (fun it' s' h' => wpAny_pure (And.intro rfl h')) fun _ _ x => x))))
theorem two_loop1 {elt iter0 iter1 ct : Expr} {x y : Str} {px py : Pos} {scope : Scope} {pos : Pos} {it acc : Value} {env : Env} (I : Nat → Shared → Prop)
    (turn : ∀ n s, I n s → wpAny (model prog w) A (pyNext it) (fun r s₁ => match r with
      | none => R (.ok .next) s₁
      | some v => wpAny (model prog w) A (assign (.Name y py) env v) (fun _ s₂ =>
          wpAny (model prog w) A (isTrue ct env (eval ct env)) (fun ok s₃ =>
            if ok = true then wpAny (model prog w) A (eval elt env) (fun x s₄ =>
              wpAny (model prog w) A (call (.builtin "list.append") [acc, x]) (fun _ s₅ => ∃ m, m < n ∧ I m s₅) (notedBy (model prog w) A env fun e s' => R (.error e) s') s₄) (notedBy (model prog w) A env fun e s' => R (.error e) s') s₃
            else ∃ m, m < n ∧ I m s₃) (notedBy (model prog w) A env fun e s' => R (.error e) s') s₂) (notedBy (model prog w) A env fun e s' => R (.error e) s') s₁) (notedBy (model prog w) A env fun e s' => R (.error e) s') s)
    (n : Nat) (h : I n s) :
    codeAny (model prog w) A (.compLoop (.ListComp elt [⟨.Name x px, iter0, [], 0⟩, ⟨.Name y py, iter1, [ct], 0⟩] scope pos) 1 it acc env) R s := by
  refine codeAny_loop rfl I (fun n s hI => ?_) n h
  show wpAny _ A ((compTurn (.ListComp elt [⟨.Name x px, iter0, [], 0⟩, ⟨.Name y py, iter1, [ct], 0⟩] scope pos) 1 it acc env).onRaise (fun x => do noteFrame x env; theTreesLotGoes x)) _ _ s
  refine wpAny_noted ?_
  rw [two_turn1]
  refine wpAny_bind (wpAny_standAt (wpAny_bind (wpAny_mono (turn n s hI) (fun r s₁ h₁ => ?_) fun _ _ h' => h')))
  cases r with
  | none => exact wpAny_pure h₁
  | some v =>
    refine wpAny_bind (wpAny_of_eq (a := ()) rfl ?_)
    refine wpAny_bind (wpAny_mono h₁ (fun _ s₂ h₂ => wpAny_bind (wpAny_tests_one (wpAny_mono h₂ (fun ok s₃ h₃ => ?_) fun _ _ h' => h'))) fun _ _ h' => h')
    cases ok with
    | false => exact wpAny_pure ⟨rfl, h₃⟩
    | true =>
      exact wpAny_bind (wpAny_bind (wpAny_mono h₃ (fun x s₄ h₄ => wpAny_bind (wpAny_mono h₄ (fun _ s₅ h₅ => wpAny_pure (wpAny_pure ⟨rfl, h₅⟩)) fun _ _ h' => h')) fun _ _ h' => h'))
theorem two_loop0 {elt iter0 iter1 ct : Expr} {x y : Str} {px py : Pos} {scope : Scope} {pos : Pos} {it acc : Value} {env : Env} (I : Nat → Shared → Prop)
    (turn : ∀ n s, I n s → wpAny (model prog w) A (pyNext it) (fun r s₁ => match r with
      | none => R (.ok .next) s₁
      | some v => wpAny (model prog w) A (assign (.Name x px) env v) (fun _ s₂ =>
          wpAny (model prog w) A (eval iter1 env) (fun z s₃ => wpAny (model prog w) A (pyIter z) (fun it1 s₄ =>
            codeAny (model prog w) A (.compStart (.ListComp elt [⟨.Name x px, iter0, [], 0⟩, ⟨.Name y py, iter1, [ct], 0⟩] scope pos) 1 it1 acc env) (fun r s' => match r with
              | .ok _ => ∃ m, m < n ∧ I m s'
              | .error e => cameBackBy (model prog w) A env (notedBy (model prog w) A env fun e s' => R (.error e) s') e s') s₄)
            (notedBy (model prog w) A env fun e s' => R (.error e) s') s₃) (notedBy (model prog w) A env fun e s' => R (.error e) s') s₂) (notedBy (model prog w) A env fun e s' => R (.error e) s') s₁) (notedBy (model prog w) A env fun e s' => R (.error e) s') s)
    (n : Nat) (h : I n s) (hs : ∀ z, foldedSetIterable iter1 env z = pure z) :
    codeAny (model prog w) A (.compLoop (.ListComp elt [⟨.Name x px, iter0, [], 0⟩, ⟨.Name y py, iter1, [ct], 0⟩] scope pos) 0 it acc env) R s := by
  refine codeAny_loop rfl I (fun n s hI => ?_) n h
  show wpAny _ A ((compTurn (.ListComp elt [⟨.Name x px, iter0, [], 0⟩, ⟨.Name y py, iter1, [ct], 0⟩] scope pos) 0 it acc env).onRaise (fun x => do noteFrame x env; theTreesLotGoes x)) _ _ s
  refine wpAny_noted ?_
  rw [two_turn0]
  refine wpAny_bind (wpAny_standAt (wpAny_bind (wpAny_mono (turn n s hI) (fun r s₁ h₁ => ?_) fun _ _ h' => h')))
  cases r with
  | none => exact wpAny_pure h₁
  | some v =>
    refine wpAny_bind (wpAny_of_eq (a := ()) rfl ?_)
    refine wpAny_bind (wpAny_mono h₁ (fun _ s₂ h₂ => ?_) fun _ _ h' => h')
    refine wpAny_bind (wpAny_mono h₂ (fun z s₃ h₃ => ?_) fun _ _ h' => h')
    refine wpAny_bind (wpAny_standAt (wpAny_bind (wpAny_of_eq (hs z) (wpAny_bind (wpAny_holding (wpAny_mono h₃ (fun it1 s₄ h₄ => ?_) fun _ _ h' => h'))))))
    refine wpAny_bind (wpAny_runOwn (codeAny_mono h₄ fun r s' hr => ?_))
    cases r with
    | ok f => exact wpAny_pure ⟨rfl, hr⟩
    | error e => exact hr
end
section
open LCg
variable {prog : Program} {w : World} {A : Around} {E : Value → Shared → Prop} {s : Shared} {h₀ : Heap} {L : Addr} {m : Str → Option Value} {env : Env}
/-- what the two clauses ask: the inner list, the test, the element -/
structure TwoSrc (prog : Program) (w : World) (A : Around) (h₀ : Heap) (L : Addr) (m : Str → Option Value) (env : Env) (elt iter1 ct : Expr) (x y : Str) (scope : Scope) (cl : List (Str × Addr)) (Q : Value → Shared → Prop) (n : Nat) (p : Nat → Value → Bool) (ax : Addr) (its : List Value) (news : List (Addr × Obj)) (s₁ : Shared) : Prop where
  src : ∃ k, (ax, ({ cls := .type "list", data := .seq its.toArray k } : Obj)) ∈ news
  iter1 : ∀ C oC h tk m₂ (E' : Value → Shared → Prop) (R : Value → Shared → Prop), NsObj oC m₂ → Fr h₀ L h m → News h₀ L h ((C, oC) :: news) → (∀ tk', R (.ref ax) { s₁ with heap := h, toks := tk' }) → wpAny (model prog w) A (eval iter1 (compEnvC scope cl C env)) R E' { s₁ with heap := h, toks := tk }
  test : ∀ i v C oC T9 h tk m₂ (E' : Value → Shared → Prop) (R : Bool → Shared → Prop), i < n → v ∈ its → (∀ q ∈ news, q ∈ T9) → NsObj oC m₂ → (∃ t, m₂ x = some (.int i t)) → m₂ y = some v → Fr h₀ L h m → News h₀ L h ((C, oC) :: T9) → (∀ h' tk', Fr h₀ L h' m → News h₀ L h' ((C, oC) :: T9) → R (p i v) { s₁ with heap := h', toks := tk' }) → wpAny (model prog w) A (isTrue ct (compEnvC scope cl C env) (eval ct (compEnvC scope cl C env))) R E' { s₁ with heap := h, toks := tk }
  elt : ∀ v C oC h tk m₂ (E' : Value → Shared → Prop) (R : Value → Shared → Prop), NsObj oC m₂ → m₂ y = some v → Fr h₀ L h m → News h₀ L h ((C, oC) :: news) → (∀ tk', R v { s₁ with heap := h, toks := tk' }) → wpAny (model prog w) A (eval elt (compEnvC scope cl C env)) R E' { s₁ with heap := h, toks := tk }
  fin : ∀ D h tk, Fr h₀ L h m → News h₀ L h ((D, lst ((List.range n).flatMap fun i => its.filter (p i))) :: news) → Off1 D news → Q (.ref D) { s₁ with heap := h, toks := tk }
theorem two_len (n : Nat) (p : Nat → Value → Bool) (its : List Value) : ((List.range n).flatMap fun i => its.filter (p i)).length ≤ n * its.length := by
  induction n with
  | zero => simp
  | succ n ih =>
    rw [List.range_succ, List.flatMap_append, List.length_append, Nat.succ_mul]
    refine Nat.add_le_add ih ?_
    simp only [List.flatMap_cons, List.flatMap_nil, List.append_nil]
    exact List.length_filter_le ..
theorem two_snoc (n : Nat) (p : Nat → Value → Bool) (its : List Value) : ((List.range (n + 1)).flatMap fun i => its.filter (p i)) = ((List.range n).flatMap fun i => its.filter (p i)) ++ its.filter (p n) := by
  rw [List.range_succ, List.flatMap_append]; simp
theorem one_news {h : Heap} {C : Addr} {oC : Obj} {news : List (Addr × Obj)} (N : News h₀ L h news) (hC : h.get? C = some oC) (hCL : C ≠ L) (hC₀ : h₀.get? C = none) : News h₀ L h ((C, oC) :: news) := fun p hp => by
  rcases List.mem_cons.mp hp with rfl | hp
  · exact ⟨hC, hCL, hC₀⟩
  · exact N p hp
theorem fr_same {h h' : Heap} {C : Addr} (F : Fr h₀ L h m) (hs : Heap.SameBut C h h') (hCL : C ≠ L) (hC₀ : h₀.get? C = none) : Fr h₀ L h' m := F.change hs hCL hC₀
theorem news_same {h h' : Heap} {C : Addr} {news : List (Addr × Obj)} (N : News h₀ L h news) (hs : Heap.SameBut C h h') (off : ∀ p ∈ news, p.1 ≠ C) : News h₀ L h' news := fun p hp => ⟨hs.extBut _ _ (off p hp) (N p hp).1, (N p hp).2⟩
theorem sub_dec {n i : Nat} (h : i < n) : n + 1 - (i + 1) < n + 1 - i := by
  rw [Nat.add_sub_add_right, Nat.succ_sub (Nat.le_of_lt h)]; exact Nat.lt_succ_self _
noncomputable abbrev TwoJ0 (h₀ : Heap) (L C D I : Addr) (m : Str → Option Value) (news : List (Addr × Obj)) (n : Nat) (its : List Value) (p : Nat → Value → Bool) (s₂ : Shared) (k : Nat) (s' : Shared) : Prop :=
  ∃ (h' : Heap) (tk i : Nat) (m' : Str → Option Value), s' = { s₂ with heap := h', toks := tk } ∧ i ≤ n ∧ k = n + 1 - i ∧ IsRangeIter h' I (0 + (i : Nat) * 1) ((n : Int) - (i : Nat)) 1 ∧ Fr h₀ L h' m ∧ News h₀ L h' news ∧ h'.Ns C m' ∧
        h'.get? D = some (lst ((List.range i).flatMap fun i => its.filter (p i)))
noncomputable abbrev TwoJ1 (h₀ : Heap) (L C D I J ax : Addr) (m : Str → Option Value) (news : List (Addr × Obj)) (n i : Nat) (x : Str) (tv : Tok) (its : List Value) (p : Nat → Value → Bool) (s₂ : Shared) (k : Nat) (s' : Shared) : Prop :=
  ∃ (h' : Heap) (tk j : Nat) (m' : Str → Option Value), s' = { s₂ with heap := h', toks := tk } ∧ j ≤ its.length ∧ k = its.length + 1 - j ∧ IsRangeIter h' I (0 + ((i + 1 : Nat) : Int) * 1) ((n : Int) - ((i + 1 : Nat) : Int)) 1 ∧ h'.IsListIter J ax j ∧ Fr h₀ L h' m ∧ News h₀ L h' news ∧ h'.Ns C m' ∧ m' x = some (.int i tv) ∧
              h'.get? D = some (lst (((List.range i).flatMap fun i => its.filter (p i)) ++ (its.take j).filter (p i)))
theorem two_block {elt iter0 iter1 ct : Expr} {x y : Str} {px py : Pos} {scope : Scope} {cl : List (Str × Addr)} {pos : Pos} {Q : Value → Shared → Prop} {n : Nat} {p : Nat → Value → Bool} {ax I : Addr} {its : List Value} {news : List (Addr × Obj)} {s₂ : Shared} {RR : Value → Addr → Result → Shared → Prop}
    (hh : A.handled = none) (hsz : n * its.length ≤ sizeLine) (hcell : ∀ y ∈ scope.names, y.2 ≠ .cell) (hkind : scope.kind = .function) (hx : scope.names.lookup x = some .local) (hy : scope.names.lookup y = some .local) (hxy : x ≠ y)
    (hs1 : ∀ env z, foldedSetIterable iter1 env z = pure z)
    (hI : IsRangeIter s₂.heap I 0 n 1) (F : Fr h₀ L s₂.heap m) (N : News h₀ L s₂.heap news) (hIL : L ≠ I) (hI₀ : h₀.get? I = none) (off : ∀ p ∈ news, p.1 ≠ I)
    (T : TwoSrc prog w A h₀ L m env elt iter1 ct x y scope cl Q n p ax its news s₂)
    (hRR : ∀ D C h tk m', Fr h₀ L h m → News h₀ L h ((D, lst ((List.range n).flatMap fun i => its.filter (p i))) :: news) → Off1 D news → h.Ns C m' → h₀.get? C = none → C ≠ L → C ≠ D → (∀ p ∈ news, p.1 ≠ C) → RR (.ref D) C (.ok .next) { s₂ with heap := h, toks := tk }) :
    wpAny (model prog w) A (newList []) (fun acc s₃ => wpAny (model prog w) A (newFunctionEnv scope env.globals cl [] env.qual none .none (some env)) (fun cenv s₄ =>
      codeAny (model prog w) A (.compStart (.ListComp elt [⟨.Name x px, iter0, [], 0⟩, ⟨.Name y py, iter1, [ct], 0⟩] scope pos) 0 (.ref I) acc { cenv with scope := relabel scope env }) (RR acc cenv.locals) s₄) E s₃) E s₂ := by
  refine wpAny_newObj_type (wpAny_newFunctionEnv hcell (by intro y hy; simp at hy) (fun h₁ hns₁ hsb₁ => ?_) hkind)
  dsimp only at hns₁ hsb₁ ⊢
  generalize hH2 : s₂.heap.push { cls := .type "list", dict := none, data := .seq ([] : List Value).toArray } = H2 at hns₁ hsb₁ ⊢
  have hC : H2.objs.size = s₂.heap.objs.size + 1 := by rw [← hH2, Heap.size_push]
  generalize hD : s₂.heap.objs.size = D at hC ⊢
  generalize hCe : H2.objs.size = C at hC hns₁ hsb₁ ⊢
  have hDC : D ≠ C := by rw [hC]; exact Nat.ne_of_lt (Nat.lt_succ_self _)
  have lt : ∀ b o, s₂.heap.get? b = some o → b ≠ C ∧ b ≠ D := fun b o e => by
    have := Heap.lt_size e
    rw [hD] at this
    exact ⟨by rw [hC]; exact Nat.ne_of_lt (Nat.lt_succ_of_lt this), Nat.ne_of_lt this⟩
  have old : ∀ b o, s₂.heap.get? b = some o → h₁.get? b = some o := fun b o e => hsb₁.extBut b o (lt b o e).1 (Heap.get?_push_of_some _ (hH2 ▸ Heap.get?_push_of_some _ e))
  have hacc : h₁.get? D = some (lst []) := hsb₁.extBut _ _ hDC (Heap.get?_push_of_some _ (hH2 ▸ hD ▸ Heap.get?_push_size _ rfl))
  have fresh₀ : ∀ a, D ≤ a → h₀.get? a = none := fun a ha => by
    cases e : h₀.get? a with
    | none => rfl
    | some o' => have := Heap.lt_size (F.keep a o' e); rw [hD] at this; exact absurd this (Nat.not_lt.mpr ha)
  have hD₀ : h₀.get? D = none := fresh₀ _ (Nat.le_refl _)
  have hC₀ : h₀.get? C = none := fresh₀ _ (by rw [hC]; exact Nat.le_succ _)
  have hLlt : L < D := hD ▸ F.ns.lt
  have hDL : D ≠ L := Nat.ne_of_gt hLlt
  have hCL : C ≠ L := by rw [hC]; exact Nat.ne_of_gt (Nat.lt_succ_of_lt hLlt)
  have hIC : I ≠ C := (lt I _ hI).1
  have hID : I ≠ D := (lt I _ hI).2
  have nCD : ∀ q ∈ news, q.1 ≠ C ∧ q.1 ≠ D := fun q hq => lt _ _ (N q hq).1
  have nC : ∀ q ∈ news, q.1 ≠ C := fun q hq => (nCD q hq).1
  have nD : ∀ q ∈ news, q.1 ≠ D := fun q hq => (nCD q hq).2
  obtain ⟨kk, hax⟩ := T.src
  have haxD : ax ≠ D := nD _ hax
  have haxC : ax ≠ C := nC _ hax
  have W0 := range_walks (prog := prog) (w := w) (I := I) hh 0 n
  have loop : ∀ s₃ : Shared, s₃ = { s₂ with heap := h₁, toks := s₂.toks + ([] : List (Str × Value)).length } →
      codeAny (model prog w) A (.compLoop (.ListComp elt [⟨.Name x px, iter0, [], 0⟩, ⟨.Name y py, iter1, [ct], 0⟩] scope pos) 0 (.ref I) (.ref D) (compEnvC scope cl C env)) (RR (.ref D) C) s₃ := by
    rintro s₃ rfl
    refine two_loop0
      (TwoJ0 h₀ L C D I m news n its p s₂) ?_ (n + 1)
      ⟨h₁, _, 0, _, rfl, Nat.zero_le _, rfl, ?_, F.kept old, N.grown old, hns₁, hacc⟩ (fun z => hs1 _ z)
    · rintro k s' ⟨h', tk, i, m', rfl, hi, rfl, hst, F', N', hn', hacc'⟩
      by_cases hlt : i < n
      · refine W0.item i _ _ _ hlt hst fun v h₂ tk₂ hPv hst₂ hk₂ => ?_
        obtain ⟨tv, rfl⟩ := hPv
        refine wpAny_assign_Name (wpAny_storeName_local (lookup_relabel_local hx) (hn'.at' fun o e => hk₂ _ o (by simpa using Ne.symm hIC) e) (fun h₃ hn₃ hs₃ => ?_) (by simp [compEnvC, relabel, hkind]))
        dsimp only [compEnvC] at hn₃ hs₃
        have F₃ : Fr h₀ L h₃ m := fr_same (fr_but F' hk₂ hIL hI₀) hs₃ hCL hC₀
        have N₃ : News h₀ L h₃ news := news_same (news_but N' hk₂ off) hs₃ nC
        have hst₃ : IsRangeIter h₃ I (0 + ((i + 1 : Nat) : Int) * 1) ((n : Int) - ((i + 1 : Nat) : Int)) 1 := hs₃.extBut _ _ hIC hst₂
        have hacc₃ : h₃.get? D = some (lst ((List.range i).flatMap fun i => its.filter (p i))) := hs₃.extBut _ _ hDC (hk₂ _ _ (by simpa using Ne.symm hID) hacc')
        obtain ⟨oC, heC, hoC⟩ := ns_obj hn₃
        refine T.iter1 C oC h₃ _ _ _ _ hoC F₃ (one_news N₃ heC hCL hC₀) (fun tk₄ => ?_)
        have hl : h₃.IsList ax its.toArray := ⟨_, (N₃ _ hax).1, rfl, _, rfl⟩
        refine wpAny_pyIter_list hl ?_
        dsimp only
        have hJ₀' := next_is_new F₃
        have hJL' : h₃.objs.size ≠ L := Nat.ne_of_gt F₃.ns.lt
        generalize hJ : h₃.objs.size = J at hJ₀' hJL' ⊢
        have ltJ : ∀ b o, h₃.get? b = some o → b ≠ J := fun b o e => by
          have := Heap.lt_size e
          rw [hJ] at this
          exact Nat.ne_of_lt this
        generalize hh4 : h₃.push { cls := .type "list_iterator", data := .fields #[.ref ax, .int 0 0] } = h₄
        have up : ∀ b o, h₃.get? b = some o → h₄.get? b = some o := fun b o e => hh4 ▸ Heap.get?_push_of_some _ e
        have hJ4 : h₄.IsListIter J ax 0 := ⟨_, hh4 ▸ hJ ▸ Heap.get?_push_size _ rfl, rfl, rfl⟩
        have hJax : ax ≠ J := ltJ _ _ (N₃ _ hax).1
        have hJI : I ≠ J := ltJ _ _ hst₃
        have hJC : C ≠ J := ltJ _ _ heC
        have hJD : D ≠ J := ltJ _ _ hacc₃
        have nJ : ∀ q ∈ news, q.1 ≠ J := fun q hq => ltJ _ _ (N₃ q hq).1
        have W1 := Walks.list (prog := prog) (w := w) hh J ax hJax its.toArray
        have inner : ∀ s₅ : Shared, s₅ = { s₂ with heap := h₄, toks := tk₄ } →
            codeAny (model prog w) A (.compLoop (.ListComp elt [⟨.Name x px, iter0, [], 0⟩, ⟨.Name y py, iter1, [ct], 0⟩] scope pos) 1 (.ref J) (.ref D) (compEnvC scope cl C env)) (fun r s' => match r with
              | .ok _ => ∃ m₁, m₁ < n + 1 - i ∧ TwoJ0 h₀ L C D I m news n its p s₂ m₁ s'
              | .error e => cameBackBy (model prog w) A (compEnvC scope cl C env) (notedBy (model prog w) A (compEnvC scope cl C env) fun e s' => RR (.ref D) C (.error e) s') e s') s₅ := by
          rintro s₅ rfl
          refine two_loop1
            (TwoJ1 h₀ L C D I J ax m news n i x tv its p s₂) ?_ (its.length + 1)
            ⟨h₄, _, 0, _, rfl, Nat.zero_le _, rfl, up _ _ hst₃, hJ4, F₃.kept up, N₃.grown up, hn₃.at' (fun o e => up _ _ e), by simp, by simpa using up _ _ hacc₃⟩
          · rintro k s' ⟨h', tk, j, m', rfl, hj, rfl, hr', hlJ, F', N', hn', hmx, hacc'⟩
            have hl' : h'.IsListIter J ax j ∧ h'.IsList ax its.toArray := ⟨hlJ, _, (N' _ hax).1, rfl, _, rfl⟩
            by_cases hjt : j < its.length
            · refine W1.item j _ _ _ (by simpa using hjt) hl' fun v h₆ tk₆ hPv hst₆ hk₆ => ?_
              have hvj : its[j]? = some v := by simpa using hPv
              refine wpAny_assign_Name (wpAny_storeName_local (lookup_relabel_local hy) (hn'.at' fun o e => hk₆ _ o (by simpa using hJC) e) (fun h₇ hn₇ hs₇ => ?_) (by simp [compEnvC, relabel, hkind]))
              dsimp only [compEnvC] at hn₇ hs₇
              have F₇ : Fr h₀ L h₇ m := fr_same (fr_but F' hk₆ (Ne.symm hJL') hJ₀') hs₇ hCL hC₀
              have N₇ : News h₀ L h₇ news := news_same (news_but N' hk₆ nJ) hs₇ nC
              have hr₇ : IsRangeIter h₇ I (0 + ((i + 1 : Nat) : Int) * 1) ((n : Int) - ((i + 1 : Nat) : Int)) 1 := hs₇.extBut _ _ hIC (hk₆ _ _ (by simpa using hJI) hr')
              obtain ⟨oJ, heJ6, hoJ⟩ := hst₆.1
              have heJ7 : h₇.get? J = some oJ := hs₇.extBut _ _ (Ne.symm hJC) heJ6
              have hacc₇ : h₇.get? D = some (lst (((List.range i).flatMap fun i => its.filter (p i)) ++ (its.take j).filter (p i))) := hs₇.extBut _ _ hDC (hk₆ _ _ (by simpa using hJD) hacc')
              obtain ⟨oC7, heC7, hoC7⟩ := ns_obj hn₇
              have ht : (its.take (j + 1)).filter (p i) = (its.take j).filter (p i) ++ (if p i v then [v] else []) := take_succ_filter _ _ _ _ hvj
              obtain ⟨oI, hr₇', hoI⟩ : ∃ oI, h₇.get? I = some oI ∧ ∀ h : Heap, h.get? I = some oI → IsRangeIter h I (0 + ((i + 1 : Nat) : Int) * 1) ((n : Int) - ((i + 1 : Nat) : Int)) 1 := ⟨_, hr₇, fun h e => e⟩
              refine T.test i v C oC7 ((I, oI) :: (J, oJ) :: (D, lst (((List.range i).flatMap fun i => its.filter (p i)) ++ (its.take j).filter (p i))) :: news) h₇ _ _ _ _ hlt (List.mem_of_getElem? hvj) (fun q hq => List.mem_cons_of_mem _ (List.mem_cons_of_mem _ (List.mem_cons_of_mem _ hq))) hoC7 ⟨tv, by simp [hxy, hmx]⟩ (by simp) F₇ (fun q hq => ?_) (fun h₈ tk₈ F₈ N₈ => ?_)
              · rcases List.mem_cons.mp hq with rfl | hq
                · exact ⟨heC7, hCL, hC₀⟩
                · rcases List.mem_cons.mp hq with rfl | hq
                  · exact ⟨hr₇', Ne.symm hIL, hI₀⟩
                  · rcases List.mem_cons.mp hq with rfl | hq
                    · exact ⟨heJ7, hJL', hJ₀'⟩
                    · rcases List.mem_cons.mp hq with rfl | hq
                      · exact ⟨hacc₇, hDL, hD₀⟩
                      · exact N₇ q hq
              have heC8 : h₈.get? C = some oC7 := (N₈ _ List.mem_cons_self).1
              have hr₈ : IsRangeIter h₈ I (0 + ((i + 1 : Nat) : Int) * 1) ((n : Int) - ((i + 1 : Nat) : Int)) 1 := hoI _ (N₈ (I, oI) (List.mem_cons_of_mem _ List.mem_cons_self)).1
              have heJ8 : h₈.get? J = some oJ := (N₈ _ (List.mem_cons_of_mem _ (List.mem_cons_of_mem _ List.mem_cons_self))).1
              have hacc₈ : h₈.get? D = some (lst (((List.range i).flatMap fun i => its.filter (p i)) ++ (its.take j).filter (p i))) := (N₈ _ (List.mem_cons_of_mem _ (List.mem_cons_of_mem _ (List.mem_cons_of_mem _ List.mem_cons_self)))).1
              have N₈' : News h₀ L h₈ news := fun q hq => N₈ q (List.mem_cons_of_mem _ (List.mem_cons_of_mem _ (List.mem_cons_of_mem _ (List.mem_cons_of_mem _ hq))))
              have hn₈ := hoC7.ns heC8
              split
              · rename_i hp
                refine T.elt v C oC7 h₈ _ _ _ _ hoC7 (by simp) F₈ (one_news N₈' heC8 hCL hC₀) (fun tk₉ => ?_)
                refine append_at (hsz := ?_) hacc₈ fun h₁₀ hs₁₀ hD₁₀ => ?_
                · refine ⟨its.length + 1 - (j + 1), sub_dec hjt, h₁₀, tk₉, j + 1, _, rfl, hjt, rfl, hs₁₀.extBut _ _ hID hr₈, ⟨oJ, hs₁₀.extBut _ _ (Ne.symm hJD) heJ8, hoJ⟩, fr_same F₈ hs₁₀ hDL hD₀, news_same N₈' hs₁₀ nD, hn₈.sameBut hs₁₀ (Ne.symm hDC), by simp [hxy, hmx], ?_⟩
                  rw [hD₁₀, ht, if_pos hp, ← List.append_assoc]
                  exact congrArg some (lst_snoc _ _)
                · rw [List.size_toArray, List.length_append]
                  have a1 := two_len (i + 1) p its
                  rw [two_snoc, List.length_append] at a1
                  have a2 : ((its.take j).filter (p i)).length ≤ (its.filter (p i)).length := (List.Sublist.filter _ (List.take_sublist j its)).length_le
                  have a3 : (i + 1) * its.length ≤ n * its.length := Nat.mul_le_mul_right _ hlt
                  omega
              · rename_i hp
                refine ⟨its.length + 1 - (j + 1), sub_dec hjt, h₈, tk₈, j + 1, _, rfl, hjt, rfl, hr₈, ⟨oJ, heJ8, hoJ⟩, F₈, N₈', hn₈, by simp [hxy, hmx], ?_⟩
                rw [hacc₈, ht, if_neg hp, List.append_nil]
            · obtain rfl : j = its.length := Nat.le_antisymm hj (Nat.not_lt.mp hjt)
              refine W1.done _ _ _ (by simpa using hl') fun h₆ tk₆ hk₆ => ?_
              refine ⟨n + 1 - (i + 1), sub_dec hlt, h₆, tk₆, i + 1, m', rfl, hlt, rfl, hk₆ _ _ (by simpa using hJI) hr', fr_but F' hk₆ (Ne.symm hJL') hJ₀', news_but N' hk₆ nJ, hn'.at' fun o e => hk₆ _ o (by simpa using hJC) e, ?_⟩
              rw [two_snoc]
              have q := hk₆ _ _ (by simpa using hJD) hacc'
              rw [List.take_length] at q
              exact q
        exact two_start (inner _ rfl) (W1.self 0 _ _ _ ⟨hJ4, _, up _ _ (N₃ _ hax).1, rfl, _, rfl⟩ (inner _ rfl))
      · obtain rfl : i = n := Nat.le_antisymm hi (Nat.not_lt.mp hlt)
        refine W0.done _ _ _ hst fun h₂ tk₂ hk₂ => ?_
        have hD2 := hk₂ _ _ (by simpa using Ne.symm hID) hacc'
        refine hRR D C h₂ tk₂ m' (fr_but F' hk₂ hIL hI₀) (one_news (news_but N' hk₂ off) hD2 hDL hD₀) ?_ (hn'.at' fun o e => hk₂ _ o (by simpa using Ne.symm hIC) e) hC₀ hCL (Ne.symm hDC) nC
        exact Off3.one (I := I) (C := C) (Off3.of fun q hq => ⟨off q hq, nC q hq, nD q hq⟩)
    · simpa using old _ _ hI
  exact codeAny_compStart_list (loop _ rfl) (W0.self 0 _ _ _ (by simpa using old _ _ hI) (loop _ rfl))
noncomputable def TwoAt (prog : Program) (w : World) (A : Around) (h₀ : Heap) (L : Addr) (m : Str → Option Value) (env : Env) (elt iter1 ct : Expr) (x y : Str) (scope : Scope) (cl : List (Str × Addr)) (Q : Value → Shared → Prop) (n : Nat) (p : Nat → Value → Bool) (ax : Addr) (its : List Value) (z : Value) (s₁ : Shared) : Prop :=
  ∃ r t u v news, z = .ref r ∧ Fr h₀ L s₁.heap m ∧ News h₀ L s₁.heap news ∧ IsRange s₁.heap r 0 n 1 t u v ∧ Builtin.Range.small 0 (n : Int) 1 = true ∧ Builtin.Range.rangeSize 0 (n : Int) 1 = ((n : Nat) : Int) ∧ ∀ h, TwoSrc prog w A h₀ L m env elt iter1 ct x y scope cl Q n p ax its news { s₁ with heap := h }
theorem two_comp {elt iter0 iter1 ct : Expr} {x y : Str} {px py : Pos} {scope : Scope} {cl : List (Str × Addr)} {pos : Pos} {Q : Value → Shared → Prop} {n : Nat} (p : Nat → Value → Bool) {ax : Addr} {its : List Value} (_ : Fr h₀ L s.heap m)
    (hclos : closureFor scope env = pure cl) (hcell : ∀ y ∈ scope.names, y.2 ≠ .cell) (hkind : scope.kind = .function)
    (hnames : ∀ y ∈ scope.names, y.2 = .local → scope.names.lookup y.1 = some .local) (hx : scope.names.lookup x = some .local) (hy : scope.names.lookup y = some .local) (hxy : x ≠ y)
    (hs1 : ∀ env z, foldedSetIterable iter1 env z = pure z) (hs0 : ∀ z, foldedSetIterable iter0 env z = pure z) (hh : A.handled = none) (hsz : n * its.length ≤ sizeLine)
    (h : wpAny (model prog w) A (eval iter0 env) (TwoAt prog w A h₀ L m env elt iter1 ct x y scope cl Q n p ax its) E s) :
    wpAny (model prog w) A (eval (.ListComp elt [⟨.Name x px, iter0, [], 0⟩, ⟨.Name y py, iter1, [ct], 0⟩] scope pos) env) Q E s := by
  rw [eval_ListComp]
  refine wpAny_comprehension_free (use := none) rfl hs0 hclos hkind hnames (wpAny_mono h (fun xv s₁ h₁ => ?_) fun _ _ e => e)
  obtain ⟨r, t, u, v, news, rfl, F, N, hr, hsm, hn, T⟩ := h₁
  refine wpAny_pyIter_range hr hsm ?_
  refine two_block (s₂ := { s₁ with heap := s₁.heap.push { cls := .type "range_iterator", data := .fields #[rawInt 0, rawInt (Builtin.Range.rangeSize 0 (n : Int) 1), rawInt 1] } }) (p := p) hh hsz hcell hkind hx hy hxy hs1 (by rw [hn]; exact Heap.get?_push_size _ rfl)
    (F.keeps fun _ _ e => Heap.get?_push_of_some _ e) (N.grown fun _ _ e => Heap.get?_push_of_some _ e) (Nat.ne_of_lt F.ns.lt) (next_is_new F) (fun p hp => Nat.ne_of_lt (Heap.lt_size (N p hp).1)) (T _) ?_
  intro D C h tk m' F' N' o1 hn hC₀ hCL hCD offC
  refine ⟨m', hn, fun h'' hs'' => (T s₁.heap).fin D h'' tk (F'.change hs'' hCL hC₀) (fun p hp => ?_) o1⟩
  refine ⟨hs''.extBut _ _ ?_ (N' p hp).1, (N' p hp).2⟩
  rcases List.mem_cons.mp hp with rfl | hp
  · exact Ne.symm hCD
  · exact offC p hp
end
end
section
theorem clear_Plain1 : True := by k_with_none; trivial
open PySem PySem.Calls PySem.W PyProof.Rows PySem.Spec
set_option maxRecDepth 100000
set_option maxHeartbeats 4000000
section
variable {α : Type} {f : α → Nat}
/-- places with their group, in the groups' order -/
noncomputable def grp (n : Nat) (r : Nat → Int) : List Nat := (List.range 3).flatMap fun k : Nat => (List.range n).filter fun i => decide (r i = (k : Int))
theorem grp_pair {n : Nat} {r : Nat → Int} : (grp n r).Pairwise (LL r) := by
  have e : grp n r = (List.range n).filter (fun i => decide (r i = ((0 : Nat) : Int))) ++ ((List.range n).filter (fun i => decide (r i = ((1 : Nat) : Int))) ++ (List.range n).filter (fun i => decide (r i = ((2 : Nat) : Int)))) := by
    simp [grp, List.range_succ]
  have one : ∀ k : Nat, ((List.range n).filter (fun i => decide (r i = (k : Int)))).Pairwise (LL r) := fun k => by
    refine List.Pairwise.imp_of_mem (R := (· < ·)) (fun {a b} ha hb h => .inr ⟨?_, h⟩) (List.Pairwise.filter _ List.pairwise_lt_range)
    have h1 := of_decide_eq_true (List.mem_filter.mp ha).2
    have h2 := of_decide_eq_true (List.mem_filter.mp hb).2
    rw [h1, h2]
  have two : ∀ k j : Nat, k < j → ∀ a ∈ (List.range n).filter (fun i => decide (r i = (k : Int))), ∀ b ∈ (List.range n).filter (fun i => decide (r i = (j : Int))), LL r a b := fun k j hkj a ha b hb => by
    have h1 := of_decide_eq_true (List.mem_filter.mp ha).2
    have h2 := of_decide_eq_true (List.mem_filter.mp hb).2
    exact .inl (by lia)
  rw [e]
  refine List.pairwise_append.mpr ⟨one 0, List.pairwise_append.mpr ⟨one 1, one 2, two 1 2 (by decide)⟩, fun a ha b hb => ?_⟩
  rcases List.mem_append.mp hb with hb | hb
  · exact two 0 1 (by decide) a ha b hb
  · exact two 0 2 (by decide) a ha b hb
theorem grp_perm {n : Nat} {r : Nat → Int} (h : ∀ i, i < n → r i = 0 ∨ r i = 1 ∨ r i = 2) : (grp n r).Perm (List.range n) := by
  have e : grp n r = (List.range n).filter (fun i => decide (r i = ((0 : Nat) : Int))) ++ ((List.range n).filter (fun i => decide (r i = ((1 : Nat) : Int))) ++ (List.range n).filter (fun i => decide (r i = ((2 : Nat) : Int)))) := by
    simp [grp, List.range_succ]
  have p1 := List.filter_append_perm (fun i => decide (r i = ((0 : Nat) : Int))) (List.range n)
  have p2 := List.filter_append_perm (fun i => decide (r i = ((1 : Nat) : Int))) ((List.range n).filter fun i => !decide (r i = ((0 : Nat) : Int)))
  rw [List.filter_filter, List.filter_filter] at p2
  have f1 : (List.range n).filter (fun i => decide (r i = ((1 : Nat) : Int)) && !decide (r i = ((0 : Nat) : Int))) = (List.range n).filter (fun i => decide (r i = ((1 : Nat) : Int))) :=
    List.filter_congr fun i _ => by
      rw [Bool.eq_iff_iff]; simp; lia
  have f2 : (List.range n).filter (fun i => (!decide (r i = ((1 : Nat) : Int))) && !decide (r i = ((0 : Nat) : Int))) = (List.range n).filter (fun i => decide (r i = ((2 : Nat) : Int))) :=
    List.filter_congr fun i hi => by
      have := h i (List.mem_range.mp hi)
      rw [Bool.eq_iff_iff]; simp; lia
  rw [f1, f2] at p2
  rw [e]
  exact (List.Perm.append_left _ p2).trans p1
theorem filter_map_range {vs : List α} {d : α} {g : α → Bool} {q : Nat → Bool} (h : ∀ i, (hi : i < vs.length) → g vs[i] = q i) : ((List.range vs.length).filter q).map (fun i => vs.getD i d) = vs.filter g := by
  have e : vs = (List.range vs.length).map (fun i => vs.getD i d) := by
    refine List.ext_getElem (by simp) fun i h1 h2 => ?_
    simp [h1]
  conv => rhs; rw [e]
  rw [List.filter_map]
  congr 1
  refine List.filter_congr fun i hi => ?_
  have hi := List.mem_range.mp hi
  simp only [Function.comp]
  have e3 : vs.getD i d = vs[i] := by simp [hi]
  rw [e3]
  exact (h i hi).symm
theorem sorted_row {vs : List α} {d : α} {r : Nat → Int} {g : Nat → α → Bool} (h1 : 1 ≤ vs.length) (hr : ∀ i, i < vs.length → r i = 0 ∨ r i = 1 ∨ r i = 2) (h : ∀ k i, (hi : i < vs.length) → g k vs[i] = decide (r i = (k : Int))) :
    ((kev (ans r) (kas_sort vs.length)).toList.map fun i => vs.getD i d) = (List.range 3).flatMap fun k : Nat => vs.filter (g k) := by
  rw [sort_list h1 grp_pair (grp_perm hr)]
  unfold grp
  rw [List.map_flatMap]
  congr 1
  funext k
  exact filter_map_range fun i hi => h k i hi
end
theorem ne_refs {prog : Program} {w : World} {A : Around} {E : Value → Shared → Prop} {s : Shared} {l b : Addr} {xs : List Value} {Q : Value → Shared → Prop} (hl : s.heap.IsList l xs.toArray) (hb : s.heap.IsList b xs.toArray) (hr : ∀ v ∈ xs, ∃ a, v = .ref a) (hu : A.units < cLine)
    (h : Q (.bool false) s) : wpAny (model prog w) A (compareOp .NotEq (.ref l) (.ref b)) Q E s := ne_lists hl hb rfl hu (fun j h1 h2 => by
  obtain ⟨a, e⟩ := hr xs.toArray[j] (by simpa using List.getElem_mem (by simpa using h1))
  rw [e]
  exact SeqAt.EqAt.same _) h
/-- the end of the reckoner's way -/
noncomputable def fin (t : Tri) (ds : List Dd) : Tri := ds.foldl (fun t d => rk d.k d.m t) t
theorem run_fin : ∀ {ds : List Dd} {t : Tri}, ∃ r, run t ds = r ++ [fin t ds] ∧ r.length = ds.length
  | [], t => ⟨[], rfl, rfl⟩
  | d :: r, t => by
    obtain ⟨r', h, hl⟩ := run_fin (ds := r) (t := rk d.k d.m t)
    exact ⟨t :: r', by rw [run, h]; rfl, by simp [hl]⟩
/-- share and light stay above nought while they are divisible -/
structure Up9 (j : Nat) (t : Tri) : Prop where
  s0 : 0 < t.s
  s : t.s % 2 ^ j = 0
  l0 : 0 < t.l
  l : t.l % 2 ^ j = 0
theorem half_up {j : Nat} {x a : Int} (hj : j ≤ 8) (h0 : 0 < x) (h : x % 2 ^ (j + 1) = 0) (ha : 0 ≤ a) : 0 < Int.fdiv (x + 4096 * a) 2 ∧ Int.fdiv (x + 4096 * a) 2 % 2 ^ j = 0 := by
  rw [Int.fdiv_eq_ediv_of_nonneg _ (by decide)]
  refine ⟨?_, half_mod hj h⟩
  have h2 : x % 2 = 0 := Int.emod_eq_zero_of_dvd (Int.dvd_trans ⟨2 ^ j, by rw [Int.pow_succ, Int.mul_comm]⟩ (Int.dvd_of_emod_eq_zero h))
  clear h hj
  omega
theorem low_up {j : Nat} {x : Int} (h : x % 2 ^ (j + 1) = 0) : x % 2 ^ j = 0 :=
  Int.emod_eq_zero_of_dvd (Int.dvd_trans ⟨2, Int.pow_succ ..⟩ (Int.dvd_of_emod_eq_zero h))
theorem up_s {j : Nat} {t : Tri} {kd am : Int} (u : Up9 (j + 1) t) (hj : j ≤ 8) (d : OkDeed kd am) : 0 < rkS kd am t.s ∧ rkS kd am t.s % 2 ^ j = 0 := by
  unfold rkS
  repeat' split
  all_goals first | exact ⟨u.s0, low_up u.s⟩ | exact half_up hj u.s0 u.s d.a0
theorem up_l {j : Nat} {t : Tri} {kd am : Int} (u : Up9 (j + 1) t) (hj : j ≤ 8) (d : OkDeed kd am) : 0 < rkL kd am t.l ∧ rkL kd am t.l % 2 ^ j = 0 := by
  unfold rkL
  repeat' split
  all_goals first | exact ⟨u.l0, low_up u.l⟩ | exact half_up hj u.l0 u.l d.a0
theorem rk_up {j : Nat} {t : Tri} {kd am : Int} (u : Up9 (j + 1) t) (hj : j ≤ 8) (d : OkDeed kd am) : rk kd am t = ⟨Int.fmod (rkH kd am t.h) 16, rkS kd am t.s, rkL kd am t.l⟩ ∧ Up9 j (rk kd am t) := by
  have a := up_s u hj d
  have b := up_l u hj d
  have e : rk2S kd am t.s t.l = rkS kd am t.s := by unfold rk2S; rw [if_pos (by lia)]
  have e2 : rk kd am t = ⟨Int.fmod (rkH kd am t.h) 16, rkS kd am t.s, rkL kd am t.l⟩ := by
    unfold rk; rw [e, if_pos (by lia)]
  exact ⟨e2, by rw [e2]; exact ⟨a.1, a.2, b.1, b.2⟩⟩
/-- hue, share and light go each its own way -/
theorem fin_parts : ∀ {ds : List Dd} {t : Tri} {j : Nat}, Up9 j t → ds.length ≤ j → j ≤ 9 → (∀ d ∈ ds, OkDeed d.k d.m) → 0 ≤ t.h → t.h < 16 →
    fin t ds = ⟨(ds.filter fun d => decide (d.k ≤ 1)).foldl (fun h d => Int.fmod (rkH d.k d.m h) 16) t.h, (ds.filter fun d => decide (d.k = 2)).foldl (fun s d => rkS d.k d.m s) t.s, (ds.filter fun d => decide (d.k = 3)).foldl (fun l d => rkL d.k d.m l) t.l⟩
  | [], t, j, _, _, _, _, _, _ => rfl
  | d :: r, t, 0, _, hl, _, _, _, _ => by simp at hl
  | d :: r, t, j + 1, u, hl, hj, hok, h0, h1 => by
    have od := hok d List.mem_cons_self
    obtain ⟨e, u'⟩ := rk_up u (by lia) od
    have b0 : 0 ≤ (rk d.k d.m t).h := by rw [e]; exact Int.fmod_nonneg_of_pos _ (by decide)
    have b1 : (rk d.k d.m t).h < 16 := by rw [e]; exact Int.fmod_lt_of_pos _ (by decide)
    have ih := fin_parts (ds := r) u' (by simp at hl; omega) (by lia) (fun q hq => hok q (List.mem_cons_of_mem _ hq)) b0 b1
    have hk : d.k = 0 ∨ d.k = 1 ∨ d.k = 2 ∨ d.k = 3 := by have := od.k0; have := od.k3; lia
    have hf : fin t (d :: r) = fin (rk d.k d.m t) r := rfl
    rw [hf, ih, e]
    have hm : Int.fmod t.h 16 = t.h := by rw [Int.fmod_eq_emod_of_nonneg _ (by decide)]; lia
    rcases hk with k | k | k | k <;> simp [k, rkH, rkS, rkL, hm]
/-- the deeds in the groups' order -/
noncomputable def rowOf (o : Int → Int) (ds : List Dd) : List Dd := (List.range 3).flatMap fun k : Nat => ds.filter fun d => decide (o d.k = (k : Int))
theorem row_eq {o : Int → Int} {ds : List Dd} : rowOf o ds = ds.filter (fun d => decide (o d.k = ((0 : Nat) : Int))) ++ (ds.filter (fun d => decide (o d.k = ((1 : Nat) : Int))) ++ ds.filter (fun d => decide (o d.k = ((2 : Nat) : Int)))) := by
  simp [rowOf, List.range_succ]
theorem row_mem {o : Int → Int} {ds : List Dd} : ∀ d ∈ rowOf o ds, d ∈ ds := fun d hd => by
  rw [row_eq, List.mem_append, List.mem_append] at hd
  rcases hd with h | h | h <;> exact (List.mem_filter.mp h).1
theorem row_filter {o : Int → Int} {ds : List Dd} {c : Dd → Bool} {x : Int} (hx : x = 0 ∨ x = 1 ∨ x = 2) (h : ∀ d ∈ ds, c d = true ↔ o d.k = x) : (rowOf o ds).filter c = ds.filter c := by
  have one : ∀ k : Nat, (ds.filter (fun d => decide (o d.k = (k : Int)))).filter c = if x = (k : Int) then ds.filter c else [] := fun k => by
    rw [List.filter_filter]
    split
    · rename_i e
      refine List.filter_congr fun d hd => ?_
      have := h d hd
      rw [Bool.eq_iff_iff, Bool.and_eq_true, decide_eq_true_iff, ← e]
      exact ⟨fun q => q.1, fun q => ⟨q, this.mp q⟩⟩
    · rename_i e
      rw [List.filter_eq_nil_iff]
      intro d hd q
      rw [Bool.and_eq_true, decide_eq_true_iff] at q
      exact e (((h d hd).mp q.1).symm.trans q.2)
  rw [row_eq, List.filter_append, List.filter_append, one, one, one]
  rcases hx with rfl | rfl | rfl <;> simp
theorem row_len {o : Int → Int} {ds : List Dd} (h : ∀ d ∈ ds, o d.k = 0 ∨ o d.k = 1 ∨ o d.k = 2) : (rowOf o ds).length = ds.length := by
  rw [row_eq, List.length_append, List.length_append]
  induction ds with
  | nil => rfl
  | cons d r ih =>
    have ih := ih fun q hq => h q (List.mem_cons_of_mem _ hq)
    have := h d List.mem_cons_self
    rcases this with e | e | e <;> simp [e] <;> simp at ih <;> lia
theorem row_fin {o : Int → Int} {ds : List Dd} {t : Tri} {j : Nat} {x y z : Int} (u : Up9 j t) (hl : ds.length ≤ j) (hj : j ≤ 9) (hok : ∀ d ∈ ds, OkDeed d.k d.m) (h0 : 0 ≤ t.h) (h1 : t.h < 16)
    (hx : x = 0 ∨ x = 1 ∨ x = 2) (hy : y = 0 ∨ y = 1 ∨ y = 2) (hz : z = 0 ∨ z = 1 ∨ z = 2) (e0 : o 0 = x) (e1 : o 1 = x) (e2 : o 2 = y) (e3 : o 3 = z) (hxy : x ≠ y) (hxz : x ≠ z) (hyz : y ≠ z) : fin t (rowOf o ds) = fin t ds := by
  have hk : ∀ d ∈ ds, d.k = 0 ∨ d.k = 1 ∨ d.k = 2 ∨ d.k = 3 := fun d hd => by have := (hok d hd).k0; have := (hok d hd).k3; lia
  have ho : ∀ d ∈ ds, o d.k = 0 ∨ o d.k = 1 ∨ o d.k = 2 := fun d hd => by
    rcases hk d hd with k | k | k | k <;> rw [k]
    · rw [e0]; exact hx
    · rw [e1]; exact hx
    · rw [e2]; exact hy
    · rw [e3]; exact hz
  rw [fin_parts u hl hj hok h0 h1, fin_parts u (by rw [row_len ho]; exact hl) hj (fun d hd => hok d (row_mem d hd)) h0 h1]
  rw [row_filter (c := fun d => decide (d.k ≤ 1)) hx fun d hd => ?_, row_filter (c := fun d => decide (d.k = 2)) hy fun d hd => ?_, row_filter (c := fun d => decide (d.k = 3)) hz fun d hd => ?_]
  · rcases hk d hd with k | k | k | k <;> rw [decide_eq_true_iff, k] <;> simp [e0, e1, e2, e3, hxy, hxz, hyz, Ne.symm hxy, Ne.symm hxz, Ne.symm hyz]
  · rcases hk d hd with k | k | k | k <;> rw [decide_eq_true_iff, k] <;> simp [e0, e1, e2, e3, hxy, hxz, hyz, Ne.symm hxy, Ne.symm hxz, Ne.symm hyz]
  · rcases hk d hd with k | k | k | k <;> rw [decide_eq_true_iff, k] <;> simp [e0, e1, e2, e3, hxy, hxz, hyz, Ne.symm hxy, Ne.symm hxz, Ne.symm hyz]
end
section
theorem clear_Red3 : True := by k_with_none; trivial
open PySem PySem.Calls PySem.W PyProof.Rows PySem.Spec
set_option maxRecDepth 100000
set_option maxHeartbeats 8000000
theorem CallK.mono {w : World} {nd nu : Nat} {f : Value} {args : List Value} {P P' : List (Addr × Obj) → Prop} {R R' : Value → List (Addr × Obj) → Prop} (h : CallK w nd nu f args P R) (hP : ∀ l, P' l → P l) (hR : ∀ r fr, R r fr → R' r fr) : CallK w nd nu f args P' R' := by
  intro p loose mean mg mb dp un gd cn cs a ccd cl outer A₀ base h₀ L m news s Q E B F X N T hk hdp hun Pn hret
  exact h B F X N T hk hdp hun (hP _ Pn) fun r fresh h' tk' F' N' lt hr => hret r fresh h' tk' F' N' lt (hR _ _ hr)
noncomputable def DoneInv (C0 : Cd) (rs : List Dd) (news : List (Addr × Obj)) (i : Nat) (acc : Value) (T : List (Addr × Obj)) : Prop :=
  ∃ c : Cd, acc = .ref c.a ∧ c.o ∈ T ++ news ∧ c.t = fin C0.t (rs.take (i - 1)) ∧ St (9 - (i - 1)) c.t ∧ 1 ≤ i
theorem fin_snoc {t : Tri} {ds : List Dd} {d : Dd} : fin t (ds ++ [d]) = rk d.k d.m (fin t ds) := by
  unfold fin; rw [List.foldl_append]; rfl
section
variable {w : World} {p : Program} {loose : List Str} {mean : ExcName → Option Value} {mg mb : Str → Option Value} {dp un : Nat} {gd : Option (List Code)} {cn : Str} {cs : Scope} {a : Addr} {ccd : Value} {cl : List (Str × Addr)} {outer : List Env} {A₀ : Around} {base h₀ : Heap} {L : Addr} {m : Str → Option Value} {news : List (Addr × Obj)} {s : Shared} {Q E : Value → Shared → Prop}
theorem c_reduce_done {C0 : Cd} {rs : List Dd} {DL : Addr} {n : Nat}
    (B : Below A₀ base outer h₀) (F : Fr h₀ L s.heap m) (X : (hd.heap_1 w.params).In h₀) (N : News h₀ L s.heap news) (mL : (DL, listOf (Value.ref C0.a :: rs.map fun d => Value.ref d.a).toArray n) ∈ news) (mC : C0.o ∈ news) (mD : ∀ d ∈ rs, d.o ∈ news) (hok : ∀ d ∈ rs, OkDeed d.k d.m) (hst : St 9 C0.t) (hl : rs.length ≤ 9) (T : Top p loose mean mg mb h₀) (hk : cs.kind = .function) (hdp : dp + 3 < recursionLimit) (hun : un + 24 < cLine)
    (hret : ∀ (c : Cd) (T : List (Addr × Obj)) (h' : Heap) (tk' : Nat), Fr h₀ L h' m → News h₀ L h' (T ++ news) → (∀ q ∈ news, ∀ q' ∈ T, @LT.lt Nat _ q.1 q'.1) → c.o ∈ T ++ news → c.t = fin C0.t rs → St (9 - rs.length) c.t → Q (.ref c.a) { s with heap := h', toks := tk' }) :
    wpAny (model PySem.Challenge.rw_mq0203_01.prog w) (ktrTop dp un gd cn cs L a ccd cl outer) (call (.ref 30) [.ref 70, .ref DL]) Q E s := by
  refine c_reduce2 (nd := 2) (nu := 16) (DoneInv C0 rs news) ?hfn ?hstep B F X N mL rfl ?h0 T hk hdp hun ?hret
  case hfn =>
    intro g h L m l N F X hs
    exact ⟨_, _, _, _, F.keep _ _ (X 70 _ (by rfl))⟩
  case h0 => exact ⟨C0, rfl, by simpa using mC, rfl, hst, Nat.le_refl _⟩
  case hstep =>
    rintro i acc v T hv ⟨c, rfl, hc, ht, hst, h1⟩
    obtain ⟨i, rfl⟩ : ∃ j, i = j + 1 := ⟨i - 1, by omega⟩
    rw [Nat.add_sub_cancel] at ht hst
    have hv2 : (rs.map fun d => Value.ref d.a)[i]? = some v := by simpa using hv
    rw [List.getElem?_map] at hv2
    obtain ⟨d, hd, rfl⟩ := Option.map_eq_some_iff.mp hv2
    have hi : i < rs.length := by
      rcases Nat.lt_or_ge i rs.length with q | q
      · exact q
      · rw [List.getElem?_eq_none q] at hd; exact nomatch hd
    have hdm := List.mem_of_getElem? hd
    have hst' : St (8 - i + 1) c.t := by rw [s89 hi hl]; exact hst
    refine (k_done (w := w) (j := 8 - i) (c := c) (d := d) hst' (hok d hdm)).mono (fun l hl => ⟨hl _ hc, hl _ (List.mem_append_right _ (mD d hdm))⟩) ?_
    rintro r fr ⟨c', rfl, rfl, et⟩
    refine ⟨c', rfl, List.mem_cons_self, ?_, ?_, Nat.le_add_left _ _⟩
    · rw [Nat.add_sub_cancel, et, ht, List.take_add_one, hd, Option.toList_some, fin_snoc]
    · rw [Nat.add_sub_cancel, et, s98]
      exact St.next hst' (Nat.sub_le ..) (hok d hdm)
  case hret =>
    rintro r T h' tk' F' N' lt ⟨c, rfl, hc, ht, hst, h1⟩
    have e : (Value.ref C0.a :: rs.map fun d => Value.ref d.a).toArray.size - 1 = rs.length := by simp
    rw [e] at ht hst
    rw [List.take_length] at ht
    exact hret c T h' tk' F' N' lt hc ht hst
end
end
section
theorem clear_LeafT : True := by k_with_none; trivial
open PySem PySem.Calls PySem.W PyProof.Rows PySem.Spec
set_option maxRecDepth 100000
set_option maxHeartbeats 8000000
theorem fillT : True := by
  have h2 : (hd.heap_1 = hd.heap_1 ∧ PySem.Challenge.rw_mq0203_01 = PySem.Challenge.rw_mq0203_01) → True := fun _ => trivial
  apply h2
  k_fill
  exact ⟨rfl, rfl⟩
theorem line_LeafT_1 : True := by
  k_with "call builtin:max!" => ((with_reducible show wpAny _ _ (call _ [Value.float _ _, Value.float _ _, Value.float _ _]) _ _ _); k_dflt (refine' max3_ff ?p1 ?p2 ?p3 ?h1 ?h2 ?h3 ?_; (case p1 => assumption); (case p2 => assumption); (case p3 => assumption); (case h1 => rfl); (case h2 => k_asm); (case h3 => k_asm)); intro _ _ _ _ _ _; (try k_sweep))
  trivial
theorem line_LeafT_2 : True := by
  k_with "call builtin:min!" => ((with_reducible show wpAny _ _ (call _ [Value.float _ _, Value.float _ _, Value.float _ _]) _ _ _); k_dflt (refine' min3_ff ?h1 ?h2 ?h3 ?_; (case h1 => rfl); (case h2 => k_asm); (case h3 => k_asm)); intro _ _ _ _ _; (try k_sweep))
  trivial
theorem line_LeafT_3 : True := by
  k_with "execs cons!" => (k_here; (with_reducible refine wpAny_gen1 ?_); intro _ _)
  trivial
theorem line_LeafT_4 : True := by
  k_with "execs nil!" => (k_here; (with_reducible refine wpAny_gen1 ?_); intro _ _)
  trivial
theorem c_hsvT {w : World} {p : Program} {loose : List Str} {mean : ExcName → Option Value} {mg mb : Str → Option Value} {dp un : Nat} {gd : Option (List Code)} {cn : Str} {cs : Scope} {a : Addr} {ccd : Value} {cl : List (Str × Addr)} {outer : List Env} {A₀ : Around} {base h₀ : Heap} {L : Addr} {m : Str → Option Value} {news : List (Addr × Obj)} {s : Shared} {Q E : Value → Shared → Prop} {x y z : UInt64} {tx ty tz : Tok}
    (B : Below A₀ base outer h₀) (F : Fr h₀ L s.heap m) (X : (hd.heap_1 w.params).In h₀) (N : News h₀ L s.heap news) (T : Top p loose mean mg mb h₀) (hk : cs.kind = .function) (px : @LT.lt Nat _ 0 tx) (py : @LT.lt Nat _ 0 ty) (pz : @LT.lt Nat _ 0 tz) (hdp : dp + 1 < recursionLimit) (hun : un + 8 < cLine)
    (g1 : eqF (min3F x y z) (max3F x y z) = false → Float64.isZero (Float64.sub (max3F x y z) (min3F x y z)) = false) (g2 : eqF (min3F x y z) (max3F x y z) = false → Float64.isZero (max3F x y z) = false)
    (hret : ∀ (r g b : UInt64) (D : Addr) (t1 t2 t3 : Tok) (h' : Heap) (tk' : Nat), hsvF x y z = (r, g, b) → Fr h₀ L h' m → News h₀ L h' ((D, tup3 (.float r t1) (.float g t2) (.float b t3)) :: news) → (∀ q ∈ news, q.1 < D) → @LT.lt Nat _ 0 t1 → @LT.lt Nat _ 0 t2 → @LT.lt Nat _ 0 t3 → @LT.lt Nat _ 0 tk' → Q (.ref D) { s with heap := h', toks := tk' }) :
    wpAny (model PySem.Challenge.rw_mq0203_01.prog w) (ktrTop dp un gd cn cs L a ccd cl outer) (call (.ref 44) [.float x tx, .float y ty, .float z tz]) Q E s := by
  refine wpAny_call ?_
  k_dflt cell_enter
  k_steps
  all_goals first
    | exact hret _ _ _ _ _ _ _ _ _ (hsv_1 (by with_reducible assumption)) (by k_asm) (by k_asm) (by k_asm) (by first | with_reducible assumption | exact Nat.succ_pos _) (by first | with_reducible assumption | exact Nat.succ_pos _) (by first | with_reducible assumption | exact Nat.succ_pos _) (by first | with_reducible assumption | exact Nat.succ_pos _)
    | exact hret _ _ _ _ _ _ _ _ _ ((hsv_2 (by with_reducible assumption)).trans (by rw [hue_1 (by with_reducible assumption)])) (by k_asm) (by k_asm) (by k_asm) (by first | with_reducible assumption | exact Nat.succ_pos _) (by first | with_reducible assumption | exact Nat.succ_pos _) (by first | with_reducible assumption | exact Nat.succ_pos _) (by first | with_reducible assumption | exact Nat.succ_pos _)
    | exact hret _ _ _ _ _ _ _ _ _ ((hsv_2 (by with_reducible assumption)).trans (by rw [hue_2 (by with_reducible assumption) (by with_reducible assumption)])) (by k_asm) (by k_asm) (by k_asm) (by first | with_reducible assumption | exact Nat.succ_pos _) (by first | with_reducible assumption | exact Nat.succ_pos _) (by first | with_reducible assumption | exact Nat.succ_pos _) (by first | with_reducible assumption | exact Nat.succ_pos _)
    | exact hret _ _ _ _ _ _ _ _ _ ((hsv_2 (by with_reducible assumption)).trans (by rw [hue_3 (by with_reducible assumption) (by with_reducible assumption)])) (by k_asm) (by k_asm) (by k_asm) (by first | with_reducible assumption | exact Nat.succ_pos _) (by first | with_reducible assumption | exact Nat.succ_pos _) (by first | with_reducible assumption | exact Nat.succ_pos _) (by first | with_reducible assumption | exact Nat.succ_pos _)
    | exact absurd (show Float64.isZero (max3F x y z) = true by with_reducible assumption) (by rw [g2 (by with_reducible assumption)]; exact Bool.false_ne_true)
    | exact absurd (show Float64.isZero (Float64.sub (max3F x y z) (min3F x y z)) = true by with_reducible assumption) (by rw [g1 (by with_reducible assumption)]; exact Bool.false_ne_true)

section
variable {w : World} {p : Program} {loose : List Str} {mean : ExcName → Option Value} {mg mb : Str → Option Value} {dp un : Nat} {gd : Option (List Code)} {cn : Str} {cs : Scope} {a : Addr} {ccd : Value} {cl : List (Str × Addr)} {outer : List Env} {A₀ : Around} {base h₀ : Heap} {L : Addr} {m : Str → Option Value} {news : List (Addr × Obj)} {s : Shared} {Q E : Value → Shared → Prop}
theorem c_hsv_stT {h sh l : Int} {x y z : UInt64} {tx ty tz : Tok}
    (B : Below A₀ base outer h₀) (F : Fr h₀ L s.heap m) (X : (hd.heap_1 w.params).In h₀) (N : News h₀ L s.heap news) (T : Top p loose mean mg mb h₀) (hk : cs.kind = .function) (px : @LT.lt Nat _ 0 tx) (py : @LT.lt Nat _ 0 ty) (pz : @LT.lt Nat _ 0 tz) (hdp : dp + 1 < recursionLimit) (hun : un + 8 < cLine)
    (v : Valid h sh l) (ex : x = colF 0 h sh l) (ey : y = colF 16 h sh l) (ez : z = colF 32 h sh l)
    (hret : ∀ (D : Addr) (t1 t2 t3 : Tok) (h' : Heap) (tk' : Nat), Fr h₀ L h' m → News h₀ L h' ((D, tup3 (.float (fl h 4) t1) (.float (fl sh 12) t2) (.float (fl l 12) t3)) :: news) → (∀ q ∈ news, q.1 < D) → @LT.lt Nat _ 0 t1 → @LT.lt Nat _ 0 t2 → @LT.lt Nat _ 0 t3 → @LT.lt Nat _ 0 tk' → Q (.ref D) { s with heap := h', toks := tk' }) :
    wpAny (model PySem.Challenge.rw_mq0203_01.prog w) (ktrTop dp un gd cn cs L a ccd cl outer) (call (.ref 44) [.float x tx, .float y ty, .float z tz]) Q E s := by
  subst ex ey ez
  have hv := hsv_st v
  refine c_hsvT B F X N T hk px py pz hdp hun (fun q => (hv.2 q).1) (fun q => (hv.2 q).2) fun r g b D t1 t2 t3 h' tk' e F' N' l' p1 p2 p3 p4 => ?_
  rw [hv.1] at e
  cases e
  exact hret D t1 t2 t3 h' tk' F' N' l' p1 p2 p3 p4
end
end
section
theorem clear_EndT : True := by k_with_none; trivial
open PySem PySem.Calls PySem.W PyProof.Rows PySem.Spec
set_option maxRecDepth 100000
set_option maxHeartbeats 8000000
theorem law_end {cl : Str → Option Addr} {mean : ExcName → Option Value} {ws : List Int} {s₁ s' : Shared} {L : Addr} {m : Str → Option Value} (F : Fr s₁.heap L s'.heap m) (hg : s'.gens = #[]) (hos : s'.os = s₁.os) :
    GoodW PySem.Challenge.rw_mq0203_01.row.claim cl mean [ofPy (.list (ws.map .int))] s₁ (.ok (.ret (.bool true))) s' := by
  refine goodW_bool F hg (raisesW_false ?_) ?_ hos
  · wrow_none_raised
  · kc_post
theorem trk_grown {tab : Obj} {T news : List (Addr × Obj)} {h₀ h : Heap} {L : Addr} (ht : TrkTab tab T) (N : News h₀ L h news) (hm : (93, tab) ∈ news) : GrownAt 93 h := by
  rcases ht with e | ⟨_, _, _, _, _, _, _, e⟩
  · rw [e] at hm; exact GrownAt.of N hm
  · rw [e] at hm; exact GrownAt.of N hm
end
section
theorem clear_Law1 : True := by k_with_none; trivial
open PySem PySem.Calls PySem.W PyProof.Rows PySem.Spec
set_option maxRecDepth 100000
set_option maxHeartbeats 8000000
structure Pd where
  p : Addr
  c : Cd
  d : Sd
  e : c.t = d.t
  st : St 9 c.t
noncomputable abbrev Pd.o (q : Pd) : Addr × Obj := (q.p, tup2 (.ref q.c.a) (.ref q.d.a))
noncomputable abbrev OffA (O Dc : Nat) (p : Addr × Obj) : Prop := @Ne Nat p.1 93 ∧ @Ne Nat p.1 O ∧ @Ne Nat p.1 Dc ∧ @Ne Nat p.1 16 ∧ @Ne Nat p.1 100
structure Kn (O Dc : Nat) (lL D5 D0 : Addr) (n5 c0 : Nat) (qs : List Pd) (ds : List Dd) (ws0 : List Value) (T0 : List (Addr × Obj)) : Prop where
  hl : (lL, listOf (qs.map fun q => Value.ref q.p).toArray 0) ∈ T0
  hq : ∀ q ∈ qs, q.o ∈ T0
  hc : ∀ q ∈ qs, q.c.o ∈ T0
  hs : ∀ q ∈ qs, q.d.o ∈ T0
  h5 : (D5, listOf (ds.map fun d => Value.ref d.a).toArray n5) ∈ T0
  h0 : (D0, listOf ws0.toArray c0) ∈ T0
  hd : ∀ d ∈ ds, d.o ∈ T0
  off : ∀ p ∈ T0, OffA O Dc p
theorem Kn.mono {O Dc : Nat} {lL D5 D0 : Addr} {n5 c0 : Nat} {qs : List Pd} {ds : List Dd} {ws0 : List Value} {T0 T1 : List (Addr × Obj)} (k : Kn O Dc lL D5 D0 n5 c0 qs ds ws0 T0) (h : ∀ q ∈ T0, q ∈ T1) (f : ∀ p ∈ T1, OffA O Dc p) : Kn O Dc lL D5 D0 n5 c0 qs ds ws0 T1 :=
  ⟨h _ k.hl, fun q hq => h _ (k.hq q hq), fun q hq => h _ (k.hc q hq), fun q hq => h _ (k.hs q hq), h _ k.h5, h _ k.h0, fun d hd => h _ (k.hd d hd), f⟩
noncomputable def JL (m0 : Str → Option Value) (O Dc : Addr) (wO wD : Obj) (kn : List (Addr × Obj) → Prop) (_ : Nat) (m₁ : Str → Option Value) (T : List (Addr × Obj)) : Prop :=
  ∃ (tab : Obj) (T0 : List (Addr × Obj)), T = (93, tab) :: (O, wO) :: (Dc, wD) :: (16, tabObj #[]) :: (100, tabObj #[]) :: T0 ∧ TrkTab tab T0 ∧ kn T0 ∧
    ∃ os ob, m₁ = fun y => if y = Str.ofString "state" then os else if y = Str.ofString "begun" then ob else m0 y
theorem norm5 {h₀ h : Heap} {L : Addr} {l : List (Addr × Obj)} (N : News h₀ L h l) {O Dc : Addr} {a b c d e : Obj} (ha : (93, a) ∈ l) (hb : (O, b) ∈ l) (hc : (Dc, c) ∈ l) (hd : (16, d) ∈ l) (he : (100, e) ∈ l) :
    ∃ (pO pD : Nat) (T0 : List (Addr × Obj)), pO = O ∧ pD = Dc ∧ News h₀ L h ((93, a) :: (O, b) :: (Dc, c) :: (16, d) :: (100, e) :: T0) ∧ (∀ q ∈ l, OffA pO pD q → q ∈ T0) ∧ ∀ p ∈ T0, OffA pO pD p := by
  refine ⟨O, Dc, l.filter fun p => decide (OffA O Dc p), rfl, rfl, N.perm fun p hp => ?_, fun q hq hl => ?_, fun p hp => ?_⟩
  · rcases List.mem_cons.mp hp with rfl | hp
    · exact ha
    · rcases List.mem_cons.mp hp with rfl | hp
      · exact hb
      · rcases List.mem_cons.mp hp with rfl | hp
        · exact hc
        · rcases List.mem_cons.mp hp with rfl | hp
          · exact hd
          · rcases List.mem_cons.mp hp with rfl | hp
            · exact he
            · exact (List.mem_filter.mp hp).1
  · exact List.mem_filter.mpr ⟨hq, decide_eq_true hl⟩
  · exact of_decide_eq_true (List.mem_filter.mp hp).2
theorem stepN {h₀ h : Heap} {L : Addr} {x y a b c d q : Addr × Obj} {T : List (Addr × Obj)} (N : News h₀ L h (x :: y :: a :: b :: c :: d :: T)) (hq : q ∈ T) : News h₀ L h (y :: x :: a :: b :: c :: d :: q :: T) := N.perm fun p hp => by
  simp only [List.mem_cons] at hp ⊢
  rcases hp with h | h | h | h | h | h | h | h
  · exact .inr (.inl h)
  · exact .inl h
  · exact .inr (.inr (.inl h))
  · exact .inr (.inr (.inr (.inl h)))
  · exact .inr (.inr (.inr (.inr (.inl h))))
  · exact .inr (.inr (.inr (.inr (.inr (.inl h)))))
  · exact .inr (.inr (.inr (.inr (.inr (.inr (h ▸ hq))))))
  · exact .inr (.inr (.inr (.inr (.inr (.inr h)))))
theorem two_self {m0 : Str → Option Value} {a b : Str} : ∃ os ob, m0 = fun y => if y = a then os else if y = b then ob else m0 y := ⟨m0 a, m0 b, by
  funext y
  by_cases h : y = a
  · rw [if_pos h, h]
  · rw [if_neg h]
    by_cases h2 : y = b
    · rw [if_pos h2, h2]
    · rw [if_neg h2]⟩
theorem two_again {m0 : Str → Option Value} {a b : Str} {os ob os' ob' : Option Value} : (fun y => if y = a then os' else if y = b then ob' else if y = a then os else if y = b then ob else m0 y) = fun y => if y = a then os' else if y = b then ob' else m0 y := by
  funext y
  by_cases h : y = a
  · simp only [h, if_true]
  · by_cases h2 : y = b
    · simp only [h2, if_true]
    · simp only [h, h2, if_false]
theorem midN {h₀ h : Heap} {L : Addr} {x a b c d e : Addr × Obj} {fresh T : List (Addr × Obj)} (N : News h₀ L h (x :: (fresh ++ a :: b :: c :: d :: e :: T))) : News h₀ L h (x :: a :: b :: c :: d :: e :: (fresh ++ T)) := N.perm fun p hp => by
  simp only [List.mem_cons, List.mem_append] at hp ⊢
  rcases hp with h | h | h | h | h | h | h | h
  · exact .inl h
  · exact .inr (.inr (.inl h))
  · exact .inr (.inr (.inr (.inl h)))
  · exact .inr (.inr (.inr (.inr (.inl h))))
  · exact .inr (.inr (.inr (.inr (.inr (.inl h)))))
  · exact .inr (.inr (.inr (.inr (.inr (.inr (.inl h))))))
  · exact .inr (.inl h)
  · exact .inr (.inr (.inr (.inr (.inr (.inr (.inr h))))))
theorem memMid {x a b c d e p : Addr × Obj} {fresh T : List (Addr × Obj)} (hp : p ∈ fresh ++ a :: b :: c :: d :: e :: T) : p ∈ x :: a :: b :: c :: d :: e :: (fresh ++ T) := by
  simp only [List.mem_cons, List.mem_append] at hp ⊢
  rcases hp with h | h | h | h | h | h | h
  · exact .inr (.inr (.inr (.inr (.inr (.inr (.inl h))))))
  · exact .inr (.inl h)
  · exact .inr (.inr (.inl h))
  · exact .inr (.inr (.inr (.inl h)))
  · exact .inr (.inr (.inr (.inr (.inl h))))
  · exact .inr (.inr (.inr (.inr (.inr (.inl h)))))
  · exact .inr (.inr (.inr (.inr (.inr (.inr (.inr h))))))
theorem off93 {I O Dc : Addr} {oI wO wD t1 t2 tab : Obj} {q : Addr × Obj} {T : List (Addr × Obj)} {pO pD : Nat} (offI : ∀ p ∈ (93, tab) :: (O, wO) :: (Dc, wD) :: (16, t1) :: (100, t2) :: T, p.1 ≠ I) (h1 : @Ne Nat O 93) (h2 : @Ne Nat Dc 93) (hq : q ∈ T) (hT : ∀ p ∈ T, OffA pO pD p) : ∀ p ∈ (I, oI) :: (O, wO) :: (Dc, wD) :: (16, t1) :: (100, t2) :: q :: T, p.1 ≠ 93 := fun p hp => by
  simp only [List.mem_cons] at hp
  rcases hp with rfl | rfl | rfl | rfl | rfl | rfl | hp
  · exact (offI _ List.mem_cons_self).symm
  · exact h1
  · exact h2
  · exact (by decide : (16 : Nat) ≠ 93)
  · exact (by decide : (100 : Nat) ≠ 93)
  · exact (hT _ hq).1
  · exact (hT _ hp).1
theorem TrkTab.mono {tab : Obj} {T T' : List (Addr × Obj)} (h : TrkTab tab T) (s : ∀ q ∈ T, q ∈ T') : TrkTab tab T' := by
  rcases h with h | ⟨c', oc', vs', tt, h1, h2, h3, h4⟩
  · exact .inl h
  · exact .inr ⟨c', oc', vs', tt, s _ h1, h2, h3, h4⟩
theorem states_sub {x : Addr × Obj} {A l T4 : List (Addr × Obj)} (e : T4 = x :: (A ++ l)) : ∀ p ∈ l, p ∈ T4 := fun p hp => e ▸ List.mem_cons_of_mem _ (List.mem_append_right _ hp)
theorem states_mem {x : Addr × Obj} {S : List Sd} {l T4 : List (Addr × Obj)} (e : T4 = x :: (S.map Sd.o ++ l)) : ∀ d ∈ S, d.o ∈ T4 := fun d hd => e ▸ List.mem_cons_of_mem _ (List.mem_append_left _ (List.mem_map_of_mem hd))
noncomputable def JC (S2 : List Sd) (l : List (Addr × Obj)) (i : Nat) (ys : List Value) (news : List (Addr × Obj)) : Prop :=
  ∃ Cs : List Cd, ys = Cs.map (fun c => Value.ref c.a) ∧ news = Cs.map Cd.o ++ l ∧ Cs.map (·.t) = (S2.map (·.t)).take i ∧ ∀ c ∈ Cs, ∀ q ∈ l, @LT.lt Nat _ q.1 c.a
theorem jc_nil {S2 : List Sd} {l : List (Addr × Obj)} : JC S2 l 0 [] l := ⟨[], rfl, rfl, rfl, fun _ h => (by cases h)⟩
theorem jc_next {S2 : List Sd} {l : List (Addr × Obj)} {i : Nat} {Cs : List Cd} {c : Cd} {d : Sd} (ht : Cs.map (·.t) = (S2.map (·.t)).take i) (hd : S2[i]? = some d) (et : c.t = d.t) (hf : ∀ c ∈ Cs, ∀ q ∈ l, @LT.lt Nat _ q.1 c.a) (hg : ∀ q ∈ l, @LT.lt Nat _ q.1 c.a) : JC S2 l (i + 1) (Cs.map (fun c => Value.ref c.a) ++ [.ref c.a]) ((Cs ++ [c]).map Cd.o ++ l) :=
  ⟨Cs ++ [c], by rw [List.map_append]; rfl, rfl, by
    have e : (S2.map (·.t))[i]? = some d.t := by rw [List.getElem?_map, hd]; rfl
    rw [List.map_append, ht, List.take_add_one, e]
    show _ ++ [c.t] = _
    rw [et]; rfl, fun q hq => by
    rcases List.mem_append.mp hq with hq | hq
    · exact hf q hq
    · rw [List.mem_singleton.mp hq]; exact hg⟩
theorem jc_sub {l : List (Addr × Obj)} {Cs : List Cd} {d : Cd} {a b c : Addr × Obj} : ∀ p ∈ a :: b :: c :: ((Cs ++ [d]).map Cd.o ++ l), p ∈ d.o :: a :: b :: c :: (Cs.map Cd.o ++ l) := fun p hp => by
  rw [List.map_append] at hp
  simp only [List.mem_cons, List.mem_append, List.map_cons, List.map_nil, List.not_mem_nil, or_false] at hp ⊢
  rcases hp with h | h | h | (h | h) | h
  · exact .inr (.inl h)
  · exact .inr (.inr (.inl h))
  · exact .inr (.inr (.inr (.inl h)))
  · exact .inr (.inr (.inr (.inr (.inl h))))
  · exact .inl h
  · exact .inr (.inr (.inr (.inr (.inr h))))
theorem jc_off {l : List (Addr × Obj)} {Cs : List Cd} {d : Cd} {I C D : Addr} {oI oC oD : Obj} (o : LCg.Off3 I C D (Cs.map Cd.o ++ l)) (lt : ∀ q ∈ (I, oI) :: (C, oC) :: (D, oD) :: (Cs.map Cd.o ++ l), @LT.lt Nat _ q.1 d.a) : LCg.Off3 I C D ((Cs ++ [d]).map Cd.o ++ l) := by
  refine LCg.Off3.of fun p hp => ?_
  rw [List.map_append] at hp
  rcases List.mem_append.mp hp with hp | hp
  · rcases List.mem_append.mp hp with hp | hp
    · exact LCg.Off3.mem o p (List.mem_append_left _ hp)
    · rw [List.mem_singleton.mp hp]
      exact ⟨Nat.ne_of_gt (lt _ List.mem_cons_self), Nat.ne_of_gt (lt _ (List.mem_cons_of_mem _ List.mem_cons_self)), Nat.ne_of_gt (lt _ (List.mem_cons_of_mem _ (List.mem_cons_of_mem _ List.mem_cons_self)))⟩
  · exact LCg.Off3.mem o p (List.mem_append_right _ hp)
theorem run_len : ∀ (ds : List Dd) (t : Tri), (run t ds).length = ds.length + 1
  | [], _ => rfl
  | _ :: r, _ => by show (run _ r).length + 1 = _; rw [run_len r]; rfl
theorem run_sds {S : List Sd} {t : Tri} {ds : List Dd} (h : S.map (·.t) = run t ds) : S.length = ds.length + 1 := by
  have := congrArg List.length h
  rw [List.length_map, run_len] at this; exact this
theorem valid_sds {S : List Sd} {t : Tri} {ds : List Dd} (h : S.map (·.t) = run t ds) (st : St 9 t) (hl : ds.length = 9) (hok : ∀ d ∈ ds, OkDeed d.k d.m) : ∀ d ∈ S, Valid d.t.h d.t.s d.t.l := fun d hd =>
  run_valid st (Nat.le_of_eq hl) (Nat.le_refl _) hok d.t (h ▸ List.mem_map_of_mem hd)
theorem valid_cds {S : List Cd} {t : Tri} {ds : List Dd} (h : S.map (·.t) = run t ds) (st : St 9 t) (hl : ds.length = 9) (hok : ∀ d ∈ ds, OkDeed d.k d.m) : ∀ d ∈ S, Valid d.t.h d.t.s d.t.l := fun d hd =>
  run_valid st (Nat.le_of_eq hl) (Nat.le_refl _) hok d.t (h ▸ List.mem_map_of_mem hd)
theorem same_run {S Cs : List Cd} {S2 : List Sd} {t t' : Tri} {ds : List Dd} (e : t = t') (h : S.map (·.t) = run t ds) (h2 : S2.map (·.t) = run t' ds) (hc : Cs.map (·.t) = (S2.map (·.t)).take (S2.map fun d => Value.ref d.a).toArray.size) : S.map (·.t) = Cs.map (·.t) := by
  rw [hc, h, e, ← h2, List.take_of_length_le (by simp)]
theorem mem_swap {a b p : Addr × Obj} {l : List (Addr × Obj)} (h : p ∈ a :: b :: l) : p ∈ b :: a :: l := by
  simp only [List.mem_cons] at h ⊢
  rcases h with h | h | h
  · exact .inr (.inl h)
  · exact .inl h
  · exact .inr (.inr h)
theorem off_again {I : Addr} {tab tab' : Obj} {a b c d : Addr × Obj} {T1 T2 : List (Addr × Obj)} (h : ∀ p ∈ (93, tab) :: a :: b :: c :: d :: T1, p.1 ≠ I) (h2 : ∀ p ∈ T2, p.1 ≠ I) : ∀ p ∈ (93, tab') :: a :: b :: c :: d :: T2, p.1 ≠ I := fun p hp => by
  simp only [List.mem_cons] at hp
  rcases hp with rfl | rfl | rfl | rfl | rfl | hp
  · exact h (93, tab) List.mem_cons_self
  · exact h _ (by simp only [List.mem_cons, true_or, or_true])
  · exact h _ (by simp only [List.mem_cons, true_or, or_true])
  · exact h _ (by simp only [List.mem_cons, true_or, or_true])
  · exact h _ (by simp only [List.mem_cons, true_or, or_true])
  · exact h2 p hp
theorem sum_lst {prog : Program} {w : World} {A : Around} {E : Value → Shared → Prop} {s : Shared} {h₀ : Heap} {L l : Addr} {m : Str → Option Value} {news : List (Addr × Obj)} {vs : List Value} {ns : List Int} {n : Nat} {Q : Value → Shared → Prop} (hI : IntsAre vs ns) (F : Fr h₀ L s.heap m) (N : News h₀ L s.heap news) (hh : A.handled = none) (hm : (l, listOf vs.toArray n) ∈ news)
    (h : ∀ h' tk n t', Fr h₀ L h' m → News h₀ L h' news → Q (.int n t') { s with heap := h', toks := tk }) : wpAny (model prog w) A (call (.builtin "sum") [.ref l]) Q E s := by
  have hl : s.heap.IsList l vs.toArray := ⟨_, (N _ hm).1, rfl, _, rfl⟩
  exact PyProof.Rows.LSm.sum_ints F N hh hl hI fun h' tk t' F' N' => h h' tk _ t' F' N'
theorem zeroN {h₀ h : Heap} {L : Addr} {x a b c d q : Addr × Obj} {T : List (Addr × Obj)} (N : News h₀ L h (x :: a :: b :: c :: d :: T)) (hq : q ∈ T) : News h₀ L h (a :: b :: c :: d :: x :: q :: T) := N.perm fun p hp => by
  simp only [List.mem_cons] at hp ⊢
  rcases hp with h | h | h | h | h | h | h
  · exact .inr (.inl h)
  · exact .inr (.inr (.inl h))
  · exact .inr (.inr (.inr (.inl h)))
  · exact .inr (.inr (.inr (.inr (.inl h))))
  · exact .inl h
  · exact .inr (.inr (.inr (.inr (.inr (h ▸ hq)))))
  · exact .inr (.inr (.inr (.inr (.inr h))))
noncomputable abbrev Perm6 (x y z : Int) : Prop := [x, y, z] ∈ [[0, 1, 2], [0, 2, 1], [1, 0, 2], [1, 2, 0], [2, 0, 1], [2, 1, 0]]
structure Od where
  a : Addr
  x : Int
  y : Int
  z : Int
  u : Tok
  v : Tok
  w : Tok
  p : Perm6 x y z
noncomputable abbrev Od.o (o : Od) : Addr × Obj := (o.a, listOf #[.int o.x o.u, .int o.y o.v, .int o.z o.w] 0)
theorem pk_nil {l : List (Addr × Obj)} {b : Nat} : ∀ v ∈ ([] : List Value), ∃ o : Od, v = .ref o.a ∧ o.o ∈ l ∧ @LT.lt Nat _ b o.a := fun _ h => nomatch h
theorem pk_cons {h₀ h : Heap} {L a : Addr} {l : List (Addr × Obj)} {b : Nat} {x y z : Int} {u v w : Tok} {its : List Value} (N : News h₀ L h l) (hm : (a, listOf #[.int x u, .int y v, .int z w] 0) ∈ l) (hp : Perm6 x y z) (hlt : @LT.lt Nat _ b a)
    (r : ∀ v ∈ its, ∃ o : Od, v = .ref o.a ∧ o.o ∈ l ∧ @LT.lt Nat _ b o.a) : ∀ v ∈ .ref a :: its, ∃ o : Od, v = .ref o.a ∧ o.o ∈ l ∧ @LT.lt Nat _ b o.a := fun v' hv => by
  rcases List.mem_cons.mp hv with rfl | hv
  · exact ⟨⟨a, x, y, z, u, v, w, hp⟩, rfl, hm, hlt⟩
  · exact r v' hv
theorem sub_menu {prog : Program} {w : World} {A : Around} {E : Value → Shared → Prop} {s : Shared} {h₀ : Heap} {L l : Addr} {news : List (Addr × Obj)} {its : List Value} {n : Nat} {k : Int} {b : Nat} {u : Tok} {value slice : PySem.Expr} {Q : Value → Shared → Prop} (N : News h₀ L s.heap news) (hm : (l, listOf its.toArray n) ∈ news) (h0 : 0 ≤ k) (h1 : k < its.length) (h2 : its.length ≤ 64)
    (r : ∀ v ∈ its, ∃ o : Od, v = .ref o.a ∧ o.o ∈ news ∧ @LT.lt Nat _ b o.a) (h : ∀ o : Od, (o.a, listOf #[.int o.x o.u, .int o.y o.v, .int o.z o.w] 0) ∈ news → @LT.lt Nat _ b o.a → Q (.ref o.a) s)
    (hs : subscripted slice false (.ref l) (.int k u) = operate [.ref l, .int k u] (getItem (.ref l) (.int k u)) := by with_unfolding_all rfl) :
    wpAny (model prog w) A (subscriptTail value slice (.ref l) (.int k u)) Q E s := by
  have hl : s.heap.IsList l its.toArray := ⟨_, (N _ hm).1, rfl, n, rfl⟩
  have hi : k.toNat < its.length := by omega
  obtain ⟨o, e, ho, hlt⟩ := r its[k.toNat] (List.getElem_mem hi)
  refine subscriptTail_builtinR hl.typeIs slot_list_getitem.lookup (wpAny_getItem_list (Q := fun r s' => r = _ ∧ Q r s') hl h0 (by omega) (x := .ref o.a) (by rw [← e]; simp [hi]) ⟨rfl, h o ho hlt⟩) hs
theorem drop7 {h₀ h : Heap} {L : Addr} {a1 a2 a3 a4 a5 a6 a7 q : Addr × Obj} {l : List (Addr × Obj)} (N : News h₀ L h (a1 :: a2 :: a3 :: a4 :: a5 :: a6 :: a7 :: l)) (hq : q ∈ a1 :: a2 :: a3 :: a4 :: a5 :: a6 :: a7 :: l) : News h₀ L h (q :: l) := N.perm fun p hp => by
  rcases List.mem_cons.mp hp with rfl | hp
  · exact hq
  · repeat' first | exact hp | apply List.mem_cons_of_mem
theorem norm16 {h₀ h : Heap} {L : Addr} {l : List (Addr × Obj)} (N : News h₀ L h l) : ∃ news0 : List (Addr × Obj), (∀ p ∈ news0, p ∈ l ∧ p.1 ≠ 16) ∧ ∀ p ∈ l, @Ne Nat p.1 16 → p ∈ news0 :=
  ⟨l.filter fun p => decide (@Ne Nat p.1 16), fun p hp => ⟨(List.mem_filter.mp hp).1, of_decide_eq_true (List.mem_filter.mp hp).2⟩, fun p hp hn => List.mem_filter.mpr ⟨hp, decide_eq_true hn⟩⟩
theorem key_norm {h₀ h : Heap} {L : Addr} {kd news0 l : List (Addr × Obj)} {x : Addr × Obj} (N : News h₀ L h (kd ++ x :: news0)) (hn2 : ∀ p ∈ l, @Ne Nat p.1 16 → p ∈ news0) :
    ∃ T5, News h₀ L h T5 ∧ (∀ p ∈ l, @Ne Nat p.1 16 → p ∈ T5) ∧ (∀ p ∈ kd, p ∈ T5) ∧ x ∈ T5 :=
  ⟨_, N, fun p hp hne => List.mem_append_right _ (List.mem_cons_of_mem _ (hn2 p hp hne)), fun p hp => List.mem_append_left _ hp, List.mem_append_right _ List.mem_cons_self⟩
theorem headN {h₀ h : Heap} {L : Addr} {q : Addr × Obj} {l : List (Addr × Obj)} (N : News h₀ L h l) (hq : q ∈ l) : News h₀ L h (q :: l) := N.perm fun p hp => by
  rcases List.mem_cons.mp hp with rfl | hp
  · exact hq
  · exact hp
noncomputable def ordOf (od : Od) (k : Int) : Int := [od.x, od.y, od.z].getD (max k 1 - 1).toNat 0
noncomputable def ordP (od : Od) (ds : List Dd) (k : Nat) (v : Value) : Bool := match v with | .ref a => ds.any fun d => decide (@Eq Nat d.a a) && decide (ordOf od d.k = (k : Int)) | _ => false
theorem ordP_at {od : Od} {ds : List Dd} {d : Dd} {k : Nat} {h₀ h : Heap} {L : Addr} {l : List (Addr × Obj)} (N : News h₀ L h l) (hm : ∀ d ∈ ds, d.o ∈ l) (hd : d ∈ ds) : ordP od ds k (.ref d.a) = decide (ordOf od d.k = (k : Int)) := by
  unfold ordP
  dsimp only
  cases e : decide (ordOf od d.k = (k : Int)) with
  | true =>
    rw [List.any_eq_true]
    exact ⟨d, hd, by simp [of_decide_eq_true e]⟩
  | false =>
    rw [List.any_eq_false]
    intro d' hd' q
    rw [Bool.and_eq_true, decide_eq_true_iff, decide_eq_true_iff] at q
    have g1 := (N _ (hm d hd)).1
    have g2 := (N _ (hm d' hd')).1
    have q1 : d'.a = d.a := q.1
    dsimp only at g1 g2
    rw [q1, g1] at g2
    have g3 : (Data.seq #[Value.int d.k d.u, .int d.m d.w] 0) = Data.seq #[Value.int d'.k d'.u, .int d'.m d'.w] 0 := congrArg Obj.data (Option.some.inj g2)
    have g4 := Data.seq.inj g3
    have g5 : d.k = d'.k := by simpa using (by have := congrArg (fun a => a[0]?) g4.1; simpa using this : d.k = d'.k ∧ d.u = d'.u).1
    rw [g5] at e
    exact absurd q.2 (of_decide_eq_false e)
theorem ordOf_0 (od : Od) : ordOf od 0 = od.x := rfl
theorem ordOf_1 (od : Od) : ordOf od 1 = od.x := rfl
theorem ordOf_2 (od : Od) : ordOf od 2 = od.y := rfl
theorem ordOf_3' (od : Od) : ordOf od 3 = od.z := rfl
theorem od_in (od : Od) : (od.x = 0 ∨ od.x = 1 ∨ od.x = 2) ∧ (od.y = 0 ∨ od.y = 1 ∨ od.y = 2) ∧ (od.z = 0 ∨ od.z = 1 ∨ od.z = 2) ∧ od.x ≠ od.y ∧ od.x ≠ od.z ∧ od.y ≠ od.z := by
  obtain ⟨a, x, y, z, u, v, w, p⟩ := od
  simp only [Perm6, List.mem_cons, List.cons.injEq, List.not_mem_nil, or_false, and_true] at p
  dsimp only
  rcases p with ⟨rfl, rfl, rfl⟩ | ⟨rfl, rfl, rfl⟩ | ⟨rfl, rfl, rfl⟩ | ⟨rfl, rfl, rfl⟩ | ⟨rfl, rfl, rfl⟩ | ⟨rfl, rfl, rfl⟩ <;> decide
theorem ordOf_3 (od : Od) {k : Int} (h0 : 0 ≤ k) (h3 : k ≤ 3) : ordOf od k = 0 ∨ ordOf od k = 1 ∨ ordOf od k = 2 := by
  have hk : k = 0 ∨ k = 1 ∨ k = 2 ∨ k = 3 := by omega
  obtain ⟨a, b, c, _⟩ := od_in od
  rcases hk with rfl | rfl | rfl | rfl
  · exact a
  · exact a
  · exact b
  · exact c
noncomputable def rankOf (od : Od) (ds : List Dd) (i : Nat) : Int := match ds[i]? with | some d => ordOf od d.k | none => 0
theorem st_1 {h s l : Int} (b1 : 0 ≤ h) (b2 : h < 16) (s1 : 512 ≤ s) (s2 : s ≤ 4096) (s3 : s % 512 = 0) (l1 : 512 ≤ l) (l2 : l ≤ 4096) (l3 : l % 512 = 0) : St 9 ⟨h, s, l⟩ :=
  ⟨⟨b1, b2, Int.le_trans (by decide) s1, s2, Int.le_trans (by decide) l1, l2, fun e => absurd e (Int.ne_of_gt (Int.lt_of_lt_of_le (by decide) s1)), fun e => absurd e (Int.ne_of_gt (Int.lt_of_lt_of_le (by decide) l1))⟩, s3, l3⟩
theorem st_2 {l : Int} (l1 : 512 ≤ l) (l2 : l ≤ 4096) (l3 : l % 512 = 0) : St 9 ⟨0, 0, l⟩ :=
  ⟨⟨Int.le_refl _, (by decide : (0 : Int) < 16), Int.le_refl _, (by decide : (0 : Int) ≤ 4096), Int.le_trans (by decide) l1, l2, fun _ => rfl, fun _ => rfl⟩, (show (0 : Int) % 2 ^ 9 = 0 by decide), l3⟩
theorem st_3 : St 9 ⟨0, 0, 0⟩ := ⟨⟨Int.le_refl _, (by decide : (0 : Int) < 16), Int.le_refl _, (by decide : (0 : Int) ≤ 4096), Int.le_refl _, (by decide : (0 : Int) ≤ 4096), fun _ => rfl, fun _ => rfl⟩, (show (0 : Int) % 2 ^ 9 = 0 by decide), (show (0 : Int) % 2 ^ 9 = 0 by decide)⟩
theorem get_low {h₀ h : Heap} {L a : Addr} {o : Obj} {l : List (Addr × Obj)} (_ : News h₀ L h l) (_ : (a, o) ∈ l) : ∃ low : Nat, low = a := ⟨_, rfl⟩
theorem get_sd {h₀ h : Heap} {L a : Addr} {t : Tri} {u v w : Tok} {l : List (Addr × Obj)} (_ : News h₀ L h l) (hm : (a, tup3 (.int t.h u) (.int t.s v) (.int t.l w)) ∈ l) : ∃ d : Sd, d.a = a ∧ d.t = t ∧ d.o ∈ l := ⟨⟨a, t, u, v, w⟩, rfl, rfl, hm⟩
theorem get_pd {h₀ h : Heap} {L p : Addr} {c : Cd} {d : Sd} {l : List (Addr × Obj)} (_ : News h₀ L h l) (e : c.t = d.t) (st : St 9 c.t) (hm : (p, tup2 (.ref c.a) (.ref d.a)) ∈ l) : ∃ q : Pd, q.p = p ∧ q.c = c ∧ q.d = d ∧ q.o ∈ l := ⟨⟨p, c, d, e, st⟩, rfl, rfl, rfl, hm⟩
noncomputable def JD (l : List (Addr × Obj)) (i : Nat) (ys : List Value) (news : List (Addr × Obj)) : Prop :=
  ∃ ds : List Dd, ys = ds.map (fun d => Value.ref d.a) ∧ news = ds.map Dd.o ++ l ∧ (∀ d ∈ ds, OkDeed d.k d.m) ∧ ds.length = i ∧ (∀ d ∈ ds, ∀ q ∈ l, @LT.lt Nat _ q.1 d.a)
theorem jd_nil {l : List (Addr × Obj)} : JD l 0 [] l := ⟨[], rfl, rfl, fun _ h => (by cases h), rfl, fun _ h => (by cases h)⟩
theorem jd_next {l : List (Addr × Obj)} {i : Nat} {ds : List Dd} {d : Dd} (h : ∀ d ∈ ds, OkDeed d.k d.m) (hd : OkDeed d.k d.m) (hl : ds.length = i) (hf : ∀ d ∈ ds, ∀ q ∈ l, @LT.lt Nat _ q.1 d.a) (hg : ∀ q ∈ l, @LT.lt Nat _ q.1 d.a) : JD l (i + 1) (ds.map (fun d => Value.ref d.a) ++ [.ref d.a]) ((ds ++ [d]).map Dd.o ++ l) :=
  ⟨ds ++ [d], by rw [List.map_append]; rfl, rfl, fun q hq => by
    rcases List.mem_append.mp hq with hq | hq
    · exact h q hq
    · rw [List.mem_singleton.mp hq]; exact hd, by rw [List.length_append, hl]; rfl, fun q hq => by
    rcases List.mem_append.mp hq with hq | hq
    · exact hf q hq
    · rw [List.mem_singleton.mp hq]; exact hg⟩
theorem jd_sub {l : List (Addr × Obj)} {ds : List Dd} {d : Dd} {a b c : Addr × Obj} : ∀ p ∈ a :: b :: c :: ((ds ++ [d]).map Dd.o ++ l), p ∈ d.o :: a :: b :: c :: (ds.map Dd.o ++ l) := fun p hp => by
  rw [List.map_append] at hp
  simp only [List.mem_cons, List.mem_append, List.map_cons, List.map_nil, List.not_mem_nil, or_false] at hp ⊢
  rcases hp with h | h | h | (h | h) | h
  · exact .inr (.inl h)
  · exact .inr (.inr (.inl h))
  · exact .inr (.inr (.inr (.inl h)))
  · exact .inr (.inr (.inr (.inr (.inl h))))
  · exact .inl h
  · exact .inr (.inr (.inr (.inr (.inr h))))
theorem jd_off {l : List (Addr × Obj)} {ds : List Dd} {d : Dd} {I C D : Addr} {oI oC oD : Obj} (o : LCg.Off3 I C D (ds.map Dd.o ++ l)) (lt : ∀ q ∈ (I, oI) :: (C, oC) :: (D, oD) :: (ds.map Dd.o ++ l), @LT.lt Nat _ q.1 d.a) : LCg.Off3 I C D ((ds ++ [d]).map Dd.o ++ l) := by
  refine LCg.Off3.of fun p hp => ?_
  rw [List.map_append] at hp
  rcases List.mem_append.mp hp with hp | hp
  · rcases List.mem_append.mp hp with hp | hp
    · exact LCg.Off3.mem o p (List.mem_append_left _ hp)
    · rw [List.mem_singleton.mp hp]
      exact ⟨Nat.ne_of_gt (lt _ List.mem_cons_self), Nat.ne_of_gt (lt _ (List.mem_cons_of_mem _ List.mem_cons_self)), Nat.ne_of_gt (lt _ (List.mem_cons_of_mem _ (List.mem_cons_of_mem _ List.mem_cons_self)))⟩
  · exact LCg.Off3.mem o p (List.mem_append_right _ hp)
set_option pp.deepTerms false
set_option pp.deepTerms.threshold 12
local macro_rules | `(tactic| k_ne) => `(tactic| k_extra "k_ne!")
theorem le5 {x : Int} (h0 : 512 ≤ x) (h1 : x ≤ 4096) : x.natAbs < 2 ^ 53 := by omega
theorem le4 {x : Int} (h0 : 0 ≤ x) (h1 : x < 16) : x.natAbs < 2 ^ 53 := by omega
theorem line_ne : True := by
  k_with "k_ne!" => (refine neN ?_; (try dsimp only); first | exact dN1 | exact dN2 | exact dN3 | exact dN4 | exact dN5 | exact Ne.symm dN1 | exact Ne.symm dN2 | exact Ne.symm dN3 | exact Ne.symm dN4 | exact Ne.symm dN5 | exact e1 | exact e2 | exact e3 | exact e4 | exact e5 | exact Ne.symm e1 | exact Ne.symm e2 | exact Ne.symm e3 | exact Ne.symm e4 | exact Ne.symm e5)
  trivial
theorem line_Law1_1 : True := by
  k_with "call ref!" => (k_here; (show wpAny _ _ (call (Value.ref 56) _) _ _ _); k_dflt (refine' c_numbers ?B ?F ?X ?N ?T ?hk ?hd ?hu ?hL ?hI ?h63 ?_; (case B => k_asm); (case F => k_asm); (case X => k_asm); (case N => k_asm); (case T => k_asm); (case hk => rfl); (case hd => ktr_room); (case hu => ktr_units); (case hL => assumption); (case hI => assumption); (case h63 => omega)); intro xs0 ws0 c0 D0 h0 tk0 hI0 hl0 F0 N0 lN; (try simp only [List.forall_mem_cons] at lN); (try k_sweep); (have dN1 := Ne.symm lN.1); (have dN2 := Ne.symm lN.2.1); (have dN3 := Ne.symm lN.2.2.1); (have dN4 := Ne.symm lN.2.2.2.1); (have dN5 := Ne.symm lN.2.2.2.2.1))
  trivial
theorem line_Law1_2 : True := by
  k_with "eval ListComp!" => (k_here; k_dflt (refine LCg.ListComp_U (F₀ := by k_asm) (by with_unfolding_all rfl) (by decide) (by rfl) (by decide) (by rfl) ?_))
  trivial
theorem line_Law1_3 : True := by
  k_with "exec Assign cons ListComp!" => (walk_at "exec Assign")
  trivial
theorem line_Law1_4 : True := by
  k_with "CompSrc!" => (refine stop_mark ?_)
  trivial
theorem line_Law1_5 : True := by
  k_with "CompEnd!" => (refine stop_mark ?_)
  trivial
theorem line_Law1_6 : True := by
  k_with "call ref!" => (k_here; (show wpAny _ _ (call (Value.ref 63) _) _ _ _); k_dflt (refine' c_deed ?B ?F ?X ?N ?T ?hk ?hd ?hu ?_; (case B => k_asm); (case F => k_asm); (case X => k_asm); (case N => k_asm); (case T => k_asm); (case hk => rfl); (case hd => ktr_room); (case hu => ktr_units)); intro _ _ _ _ _ _ _ _ _ _ _)
  trivial
theorem div_fl {prog : Program} {w : World} {A : Around} {E : Value → Shared → Prop} {s : Shared} {Q : Value → Shared → Prop} {n d : Int} {k : Nat} {t u : Tok} (hn : @LT.lt Nat _ n.natAbs (2 ^ 53)) (hd : d = 2 ^ k) (hk : k ≤ 1000) (h : Q (.float (fl n k) s.toks) { s with toks := s.toks + 1 }) : wpAny (model prog w) A (binaryOp .Div (.int n t) (.int d u)) Q E s := by
  have e := div_k hn hk hd
  refine AutoIntOps.truediv_2 ?_ ?_ ?_
  · have : (0 : Int) < 2 ^ k := Int.pow_pos (by decide)
    rw [beq_iff_eq]; omega
  · rw [e, fl_isInf hn hk]; exact Bool.false_ne_true
  · rw [e]; exact h
theorem line_Law1_7 : True := by
  k_with "binaryOp Div int int!" => (k_here; (with_reducible show wpAny _ _ (binaryOp _ (Value.int _ _) (Value.int 16 _)) _ _ _); k_dflt (refine div_fl (k := 4) ?_ rfl (by decide) ?_); first | exact le4 b1 b2 | omega)
  trivial
theorem line_Law1_8 : True := by
  k_with "binaryOp Div int int!" => (k_here; (with_reducible show wpAny _ _ (binaryOp _ (Value.int _ _) (Value.int 4096 _)) _ _ _); k_dflt (refine div_fl (k := 12) ?_ rfl (by decide) ?_); first | exact le5 s1 s2 | exact le5 l1 l2 | omega)
  trivial
theorem stop_mk {K P : Prop} (_ : K) (h : Stop P) : P := h
noncomputable def MkD : Prop := True
theorem line_Law1_9 : True := by
  k_with "pyIter ref!" => (refine stop_mk mkD ?_)
  trivial
noncomputable def MkT : Prop := True
theorem line_Law1_10 : True := by
  k_with "call ref!" => (refine stop_mk mkT ?_)
  trivial
theorem line_Law1_11 : True := by
  k_with "call builtin:sum!" => (k_here; refine stop_mark ?_)
  trivial
theorem line_Law1_12 : True := by
  k_with "call builtin:sum!" => (k_here; k_dflt (refine' sum_lst hI0 ?F ?N ?h ?m ?_; (case F => k_asm); (case N => k_asm); (case h => exact rfl); (case m => k_mem)); intro h21 tk21 sm t21 F21 N21; (try k_sweep))
  trivial
noncomputable def MkY : Prop := True
theorem line_Law1_13 : True := by
  k_with "subscriptTail!" => (refine stop_mk mkY ?_)
  trivial
theorem line_Law1_14 : True := by
  k_with "exec Assign cons Subscript!" => (refine PySem.wpAny_Assign_Name ?_)
  trivial
theorem lyne_Law1_1 : True := by
  k_with "k_all!" => with_reducible assumption
  trivial
noncomputable def MkS : Prop := True
theorem line_Law1_15 : True := by
  k_with "call builtin:sorted!" => (refine stop_mk mkS ?_)
  trivial
noncomputable def MkZ : Prop := True
theorem line_Law1_16 : True := by
  k_with "exec Assign cons Subscript!" => (refine stop_mk mkZ ?_)
  trivial
noncomputable def MkB : Prop := True
theorem line_Law1_17 : True := by
  k_with "exec For Tuple List cons nil!" => (refine stop_mk mkB ?_)
  trivial
theorem row_vals {od : Od} {ds : List Dd} {h₀ h : Heap} {L : Addr} {l : List (Addr × Obj)} (N : News h₀ L h l) (hm : ∀ d ∈ ds, d.o ∈ l) : ((List.range 3).flatMap fun k : Nat => (ds.map fun d => Value.ref d.a).filter (ordP od ds k)) = (rowOf (ordOf od) ds).map fun d => Value.ref d.a := by
  unfold rowOf
  rw [List.map_flatMap]
  congr 1
  funext k
  rw [List.filter_map]
  congr 1
  exact List.filter_congr fun d hd => ordP_at N hm hd
theorem last_sd {S : List Sd} {t : Tri} {ds : List Dd} (h : S.map (·.t) = run t ds) : ∃ S' x, S = S' ++ [x] ∧ x.t = fin t ds := by
  obtain ⟨r, e, _⟩ := run_fin (ds := ds) (t := t)
  rw [e] at h
  have hne : S ≠ [] := by rintro rfl; simp at h
  refine ⟨S.dropLast, S.getLast hne, (List.dropLast_concat_getLast hne).symm, ?_⟩
  rw [← List.dropLast_concat_getLast hne, List.map_append] at h
  have := List.append_inj_right' h (by simp)
  simpa using this
noncomputable def MkQ : Prop := True
theorem line_Law1_18 : True := by
  k_with "compareOp Eq ref ref!" => (refine stop_mk mkQ ?_)
  trivial
noncomputable def MkU : Prop := True
theorem line_Law1_19 : True := by
  k_with "binaryOp Add ref ref!" => (refine stop_mk mkU ?_)
  trivial
noncomputable def MkL : Prop := True
theorem line_Law1_20 : True := by
  k_with "eval ListComp!" => (refine stop_mk mkL ?_)
  trivial
theorem line_Law1_21 : True := by
  k_with "TwoAt!" => (refine stop_mark ?_)
  trivial
noncomputable def MkA : Prop := True
noncomputable def MkC : Prop := True
theorem line_Law1_22 : True := by
  k_with "binaryOp Div int int!" => (refine stop_mk mkA ?_)
  trivial
/-- what is asked of the end stands behind a name: the walk need not carry it -/
theorem wpAny_frz {α : Type} {M : Model} {A : Around} {t : Sem α} {Q : α → Shared → Prop} {E : Value → Shared → Prop} {s : Shared} (h : ∀ (K : α → Shared → Prop), (∀ v s', Q v s' → K v s') → wpAny M A t K (fun _ _ => False) s) : wpAny M A t Q E s :=
  wpAny_noRaise (h Q fun _ _ q => q)
theorem offA {S x pO pD : Nat} {o : Obj} {R : Prop} (eO : pO = S + 1 + 1) (eD : pD = S + 1) (h : S + 1 + 1 < x ∧ S + 1 < x ∧ 93 < x ∧ 16 < x ∧ 100 < x ∧ R) : OffA pO pD (x, o) :=
  ⟨Nat.ne_of_gt h.2.2.1, eO ▸ Nat.ne_of_gt h.1, eD ▸ Nat.ne_of_gt h.2.1, Nat.ne_of_gt h.2.2.2.1, Nat.ne_of_gt h.2.2.2.2.1⟩
theorem offE {S x pO pD : Nat} {o : Obj} (eO : pO = S + 1 + 1) (eD : pD = S + 1) (h1 : @Ne Nat (S + 1 + 1) x) (h2 : @Ne Nat (S + 1) x) (h3 : @Ne Nat 93 x) (h4 : @Ne Nat 16 x) (h5 : @Ne Nat 100 x) : OffA pO pD (x, o) :=
  ⟨h3.symm, eO ▸ h1.symm, eD ▸ h2.symm, h4.symm, h5.symm⟩
theorem offF {S pO pD : Nat} {p : Addr × Obj} (eO : pO = S + 1 + 1) (eD : pD = S + 1) (l : @LT.lt Nat _ 93 S ∧ @LT.lt Nat _ 16 S ∧ @LT.lt Nat _ 100 S) (h : @LT.lt Nat _ (S + 1 + 1) p.1) : OffA pO pD p := by
  have a : S < p.1 := Nat.lt_of_succ_lt (Nat.lt_of_succ_lt h)
  exact ⟨Nat.ne_of_gt (Nat.lt_trans l.1 a), eO ▸ Nat.ne_of_gt h, eD ▸ Nat.ne_of_gt (Nat.lt_of_succ_lt h), Nat.ne_of_gt (Nat.lt_trans l.2.1 a), Nat.ne_of_gt (Nat.lt_trans l.2.2 a)⟩
theorem c512 {x : Int} (h0 : 0 ≤ x) (h1 : x < 8) : 512 ≤ 512 * (x + 1) ∧ 512 * (x + 1) ≤ 4096 ∧ 512 * (x + 1) % 512 = 0 := ⟨by omega, by omega, Int.mul_emod_right 512 (x + 1)⟩
theorem gen_sti {M : Model} {A : Around} {E : Value → Shared → Prop} {s S : Shared} {Q : Unit → Shared → Prop} {env : Env} {x : Str} {v : Int} (h : ∀ t, wpAny M A (storeName env x (.int v t)) Q E s) : wpAny M A (storeName env x (.int v S.toks)) Q E s := h _
theorem gen_stf {M : Model} {A : Around} {E : Value → Shared → Prop} {s S : Shared} {Q : Unit → Shared → Prop} {env : Env} {x : Str} {v : UInt64} (h : ∀ t, wpAny M A (storeName env x (.float v t)) Q E s) : wpAny M A (storeName env x (.float v S.toks)) Q E s := h _
theorem line_Law1_23 : True := by
  k_with "storeName!" => (k_here; (with_reducible refine gen_sti (fun _ => ?_)))
  trivial
theorem line_Law1_24 : True := by
  k_with "storeName!" => (k_here; (with_reducible refine gen_stf (fun _ => ?_)))
  trivial

section
variable {w : World} {p : Program} {loose : List Str} {mean : ExcName → Option Value} {mg mb : Str → Option Value} {dp un : Nat} {gd : Option (List Code)} {cn : Str} {cs : Scope} {a : Addr} {ccd : Value} {cl : List (Str × Addr)} {outer : List Env} {A₀ : Around} {base h₀ : Heap} {L : Addr} {m : Str → Option Value} {news : List (Addr × Obj)} {s : Shared} {Q E : Value → Shared → Prop}
theorem col_grey {c h l : Int} : colF c h 0 l = colF c 0 0 l := by unfold colF colP; rw [Int.zero_mul, Int.zero_mul]
theorem col_black {c h s : Int} : colF c h s 0 = colF c 0 0 0 := by unfold colF colP; rw [Int.zero_mul, Int.zero_mul]
theorem c_cd {h sh l : Int} {x y z : UInt64} {tx ty tz : Tok}
    (B : Below A₀ base outer h₀) (F : Fr h₀ L s.heap m) (X : (hd.heap_1 w.params).In h₀) (N : News h₀ L s.heap news) (T : Top p loose mean mg mb h₀) (hk : cs.kind = .function) (px : @LT.lt Nat _ 0 tx) (py : @LT.lt Nat _ 0 ty) (pz : @LT.lt Nat _ 0 tz) (hdp : dp + 1 < recursionLimit) (hun : un + 8 < cLine)
    (h0 : 0 ≤ h) (h1 : h < 47) (s0 : 0 ≤ sh) (s1 : sh ≤ 4096) (l0 : 0 ≤ l) (l1 : l ≤ 4096) (ex : x = fl h 4) (ey : y = fl sh 12) (ez : z = fl l 12)
    (hret : ∀ (c : Cd) (h' : Heap) (tk' : Nat), c.t = ⟨h, sh, l⟩ → Fr h₀ L h' m → News h₀ L h' (c.o :: news) → (∀ q ∈ news, @LT.lt Nat _ q.1 c.a) → Q (.ref c.a) { s with heap := h', toks := tk' }) :
    wpAny (model PySem.Challenge.rw_mq0203_01.prog w) (ktrTop dp un gd cn cs L a ccd cl outer) (call (.ref 51) [.float x tx, .float y ty, .float z tz]) Q E s :=
  c_rgb_st B F X N T hk px py pz hdp hun h0 h1 s0 s1 l0 l1 ex ey ez fun D t1 t2 t3 h' tk' F' N' l1 p1 p2 p3 => hret ⟨D, ⟨h, sh, l⟩, t1, t2, t3, p1, p2, p3⟩ h' tk' rfl F' N' l1
theorem c_cdg {h l : Int} {x y z : UInt64} {tx ty tz : Tok}
    (B : Below A₀ base outer h₀) (F : Fr h₀ L s.heap m) (X : (hd.heap_1 w.params).In h₀) (N : News h₀ L s.heap news) (T : Top p loose mean mg mb h₀) (hk : cs.kind = .function) (px : @LT.lt Nat _ 0 tx) (py : @LT.lt Nat _ 0 ty) (pz : @LT.lt Nat _ 0 tz) (hdp : dp + 1 < recursionLimit) (hun : un + 8 < cLine)
    (h0 : 0 ≤ h) (h1 : h < 47) (l0 : 0 ≤ l) (l1 : l ≤ 4096) (ex : x = fl h 4) (ey : y = fl 0 12) (ez : z = fl l 12)
    (hret : ∀ (c : Cd) (h' : Heap) (tk' : Nat), c.t = ⟨0, 0, l⟩ → Fr h₀ L h' m → News h₀ L h' (c.o :: news) → (∀ q ∈ news, @LT.lt Nat _ q.1 c.a) → Q (.ref c.a) { s with heap := h', toks := tk' }) :
    wpAny (model PySem.Challenge.rw_mq0203_01.prog w) (ktrTop dp un gd cn cs L a ccd cl outer) (call (.ref 51) [.float x tx, .float y ty, .float z tz]) Q E s :=
  c_rgb_st B F X N T hk px py pz hdp hun h0 h1 (by decide) (by decide) l0 l1 ex ey ez fun D t1 t2 t3 h' tk' F' N' l1 p1 p2 p3 => hret ⟨D, ⟨0, 0, l⟩, t1, t2, t3, p1, p2, p3⟩ h' tk' rfl F' (by rw [col_grey, col_grey (c := 16), col_grey (c := 32)] at N'; exact N') l1
theorem c_cdb {h sh : Int} {x y z : UInt64} {tx ty tz : Tok}
    (B : Below A₀ base outer h₀) (F : Fr h₀ L s.heap m) (X : (hd.heap_1 w.params).In h₀) (N : News h₀ L s.heap news) (T : Top p loose mean mg mb h₀) (hk : cs.kind = .function) (px : @LT.lt Nat _ 0 tx) (py : @LT.lt Nat _ 0 ty) (pz : @LT.lt Nat _ 0 tz) (hdp : dp + 1 < recursionLimit) (hun : un + 8 < cLine)
    (h0 : 0 ≤ h) (h1 : h < 47) (s0 : 0 ≤ sh) (s1 : sh ≤ 4096) (ex : x = fl h 4) (ey : y = fl sh 12) (ez : z = fl 0 12)
    (hret : ∀ (c : Cd) (h' : Heap) (tk' : Nat), c.t = ⟨0, 0, 0⟩ → Fr h₀ L h' m → News h₀ L h' (c.o :: news) → (∀ q ∈ news, @LT.lt Nat _ q.1 c.a) → Q (.ref c.a) { s with heap := h', toks := tk' }) :
    wpAny (model PySem.Challenge.rw_mq0203_01.prog w) (ktrTop dp un gd cn cs L a ccd cl outer) (call (.ref 51) [.float x tx, .float y ty, .float z tz]) Q E s :=
  c_rgb_st B F X N T hk px py pz hdp hun h0 h1 s0 s1 (by decide) (by decide) ex ey ez fun D t1 t2 t3 h' tk' F' N' l1 p1 p2 p3 => hret ⟨D, ⟨0, 0, 0⟩, t1, t2, t3, p1, p2, p3⟩ h' tk' rfl F' (by rw [col_black, col_black (c := 16), col_black (c := 32)] at N'; exact N') l1
end
theorem line_Law1_25 : True := by
  k_with "call ref!" => (k_here; (show wpAny _ _ (call (Value.ref 51) _) _ _ _); refine stop_mark ?_)
  trivial
theorem line_Law1_26 : True := by
  k_with "call ref!" => (k_here; (show wpAny _ _ (call (Value.ref 51) _) _ _ _); k_dflt (refine' c_cd ?B ?F ?X ?N ?T ?hk ?px ?py ?pz ?hd ?hu ?h0 ?h1 ?s0 ?s1 ?l0 ?l1 ?ex ?ey ?ez ?_; (case B => k_asm); (case F => k_asm); (case X => k_asm); (case N => k_asm); (case T => k_asm); (case hk => rfl); (case px => (first | with_reducible assumption | exact Nat.succ_pos _)); (case py => (first | with_reducible assumption | exact Nat.succ_pos _)); (case pz => (first | with_reducible assumption | exact Nat.succ_pos _)); (case hd => ktr_room); (case hu => ktr_units); (case ex => with_reducible rfl); (case ey => with_reducible rfl); (case ez => with_reducible rfl); (case h0 => omega); (case h1 => omega); (case s0 => omega); (case s1 => omega); (case l0 => omega); (case l1 => omega)); intro cdA hA tkA etA FA NA lA; (try simp only [List.forall_mem_cons] at lA); (try k_sweep))
  trivial
theorem line_Law1_27 : True := by
  k_with "call ref!" => (k_here; (show wpAny _ _ (call (Value.ref 51) _) _ _ _); k_dflt (refine' c_cdg ?B ?F ?X ?N ?T ?hk ?px ?py ?pz ?hd ?hu ?h0 ?h1 ?l0 ?l1 ?ex ?ey ?ez ?_; (case B => k_asm); (case F => k_asm); (case X => k_asm); (case N => k_asm); (case T => k_asm); (case hk => rfl); (case px => (first | with_reducible assumption | exact Nat.succ_pos _)); (case py => (first | with_reducible assumption | exact Nat.succ_pos _)); (case pz => (first | with_reducible assumption | exact Nat.succ_pos _)); (case hd => ktr_room); (case hu => ktr_units); (case ey => with_reducible rfl); (case ex => with_reducible rfl); (case ez => with_reducible rfl); (case h0 => omega); (case h1 => omega); (case l0 => omega); (case l1 => omega)); intro cdB hB tkB etB FB NB lB; (try simp only [List.forall_mem_cons] at lB); (try k_sweep))
  trivial
theorem line_Law1_28 : True := by
  k_with "call ref!" => (k_here; (show wpAny _ _ (call (Value.ref 51) _) _ _ _); k_dflt (refine' c_cdb ?B ?F ?X ?N ?T ?hk ?px ?py ?pz ?hd ?hu ?h0 ?h1 ?s0 ?s1 ?ex ?ey ?ez ?_; (case B => k_asm); (case F => k_asm); (case X => k_asm); (case N => k_asm); (case T => k_asm); (case hk => rfl); (case px => (first | with_reducible assumption | exact Nat.succ_pos _)); (case py => (first | with_reducible assumption | exact Nat.succ_pos _)); (case pz => (first | with_reducible assumption | exact Nat.succ_pos _)); (case hd => ktr_room); (case hu => ktr_units); (case ez => with_reducible rfl); (case ex => with_reducible rfl); (case ey => with_reducible rfl); (case h0 => omega); (case h1 => omega); (case s0 => omega); (case s1 => omega)); intro cdC hC tkC etC FC NC lC; (try simp only [List.forall_mem_cons] at lC); (try k_sweep))
  trivial
theorem line_Law1_29 : True := by
  k_with "call ref!" => (refine stop_mk mkC ?_)
  trivial
theorem news_swap {h₀ h : Heap} {L : Addr} {a : Addr × Obj} {X Y : List (Addr × Obj)} (N : News h₀ L h (a :: (X ++ Y))) : News h₀ L h (a :: (Y ++ X)) := N.perm fun p hp => by
  simp only [List.mem_cons, List.mem_append] at hp ⊢
  rcases hp with h | h | h
  · exact .inl h
  · exact .inr (.inr h)
  · exact .inr (.inl h)
theorem ne_above {a b : Nat} {l : List (Addr × Obj)} (h : ∀ p ∈ l, @LT.lt Nat _ a p.1) (hb : b ≤ a) : ∀ p ∈ l, p.1 ≠ b := fun p hp => Nat.ne_of_gt (Nat.lt_of_le_of_lt hb (h p hp))
theorem lyne_Law1_2 : True := by
  k_with "k_all!" => (refine ne_above (by with_reducible assumption) ?_; omega)
  trivial
theorem law1 : PySem.Challenge.rw_mq0203_01.Holds := by
  refine hd ?_
  k_go0
  refine wpAny_frz ?_
  intro KQ hKQ
  k_steps
  rename_i wO wD eO eD X0 XK TK BK cH1 cH2 l00 h1 D2 ws h2 F2 N2 hI2 hC2 hL2 l2
  refine LCg.CompSrc.ledger (by rfl) F2 N2 List.mem_cons_self (by rw [List.size_toArray, hI2.length, sizeLine_eq]; omega) (fun g => ?_)
  refine comp_rest (n := ws.toArray.size) (JD _) ?step ?fin _ 0 [] _ (Nat.zero_add _) jd_nil
  case step =>
    rintro i ys nw v I oI C oC D m₂ h tk E' hi ⟨ds, rfl, rfl, hok, hlen, hfar⟩ hv hC hx F8 N8 off8 ne8
    obtain ⟨n, t, rfl⟩ := ints_mem hI2 v (by rw [List.getElem?_toArray] at hv; exact List.mem_of_getElem? hv)
    clear F2 N2
    k_steps
    rename_i kd am D9 t1 t2 h9 tk9 ok9 F9 N9 l9
    exact LCg.CompEnd.intro F9 N9 _ (jd_sub (d := ⟨D9, kd, am, t1, t2⟩)) (jd_off (d := ⟨D9, kd, am, t1, t2⟩) off8 l9) (.inr ⟨_, List.mem_append_right _ List.mem_cons_self, rfl, _, rfl⟩) (jd_next (d := ⟨D9, kd, am, t1, t2⟩) hok ok9 hlen hfar (fun q hq => l9 q (List.mem_cons_of_mem _ (List.mem_cons_of_mem _ (List.mem_cons_of_mem _ (List.mem_append_right _ hq))))))
  case fin =>
    rintro ys nw ⟨ds, rfl, rfl, hok, hlen, hfar⟩
    have hds : ds.length = 9 := by rw [hlen, List.size_toArray, hI2.length, List.length_drop, hl0]
    clear F2 N2
    k_steps
    rename_i D5 h5 tk5 F5 N5 o5
    have N6 := news_swap N5
    simp only [List.cons_append, List.nil_append] at N6
    have far : ∀ p ∈ ds.map Dd.o, @LT.lt Nat _ (_ + 1 + 1) p.1 := fun p hp => by
      obtain ⟨d, hd, rfl⟩ := List.mem_map.mp hp
      exact hfar d hd _ (List.mem_cons_of_mem _ (List.mem_cons_of_mem _ List.mem_cons_self))
    have e1 : @Ne Nat _ D5 := off1_ne o5 _ (List.mem_append_right _ (List.mem_cons_of_mem _ (List.mem_cons_of_mem _ List.mem_cons_self)))
    have e2 : @Ne Nat _ D5 := off1_ne o5 _ (List.mem_append_right _ (List.mem_cons_of_mem _ (List.mem_cons_of_mem _ (List.mem_cons_of_mem _ List.mem_cons_self))))
    have e3 : @Ne Nat _ D5 := off1_ne o5 _ (List.mem_append_right _ (List.mem_cons_of_mem _ (List.mem_cons_of_mem _ (List.mem_cons_of_mem _ (List.mem_cons_of_mem _ List.mem_cons_self)))))
    have e4 : @Ne Nat _ D5 := off1_ne o5 _ (List.mem_append_right _ (List.mem_cons_of_mem _ (List.mem_cons_of_mem _ (List.mem_cons_of_mem _ (List.mem_cons_of_mem _ (List.mem_cons_of_mem _ List.mem_cons_self))))))
    have e5 : @Ne Nat _ D5 := off1_ne o5 _ (List.mem_append_right _ (List.mem_cons_of_mem _ (List.mem_cons_of_mem _ (List.mem_cons_of_mem _ (List.mem_cons_of_mem _ (List.mem_cons_of_mem _ (List.mem_cons_of_mem _ List.mem_cons_self)))))))
    dsimp only at e1 e2 e3 e4 e5
    clear N5
    generalize hT3 : ds.map Dd.o = T3 at N6 far
    have mkA : MkA := trivial
    k_steps
    rename_i gX oD dD u1 th gX2 u2 ts gX3 u3 tl g7 F7 N7
    clear mkA
    unfold Stop
    generalize e0 : List.getD xs0 (Int.toNat 0) 0 = n0 at F7 ⊢
    have b1 : 0 ≤ Int.fmod n0 16 := Int.fmod_nonneg_of_pos _ (by decide)
    have b2 : Int.fmod n0 16 < 16 := Int.fmod_lt_of_pos _ (by decide)
    have b3 : 0 ≤ Int.fmod (Int.fdiv n0 16) 8 := Int.fmod_nonneg_of_pos _ (by decide)
    have b4 : Int.fmod (Int.fdiv n0 16) 8 < 8 := Int.fmod_lt_of_pos _ (by decide)
    have b5 : 0 ≤ Int.fmod (Int.fdiv n0 128) 8 := Int.fmod_nonneg_of_pos _ (by decide)
    have b6 : Int.fmod (Int.fdiv n0 128) 8 < 8 := Int.fmod_lt_of_pos _ (by decide)
    generalize Int.fmod n0 16 = hue at b1 b2 F7 ⊢
    generalize Int.fmod (Int.fdiv n0 16) 8 = sa at b3 b4 F7 ⊢
    generalize Int.fmod (Int.fdiv n0 128) 8 = la at b5 b6 F7 ⊢
    have c1 : 512 ≤ 512 * (sa + 1) ∧ 512 * (sa + 1) ≤ 4096 ∧ 512 * (sa + 1) % 512 = 0 := c512 b3 b4
    have c2 : 512 ≤ 512 * (la + 1) ∧ 512 * (la + 1) ≤ 4096 ∧ 512 * (la + 1) % 512 = 0 := c512 b5 b6
    generalize 512 * (sa + 1) = sh at c1 F7 ⊢
    generalize 512 * (la + 1) = li at c2 F7 ⊢
    obtain ⟨s1, s2, s3⟩ := c1
    obtain ⟨l1, l2, l3⟩ := c2
    have mkB : MkB := trivial
    k_steps
    rename_i h8 F8 N8
    clear mkB
    unfold Stop
    refine For_invTF F8 ?_ (by intro _; rfl)
    have mkD : MkD := trivial
    k_steps
    rename_i a5 g5 r5 a4 g4 r4 a3 g3 r3 a2 g2 r2 a1 g1 r1 a0 g0 r0 lL g9 F9 N9 rL
    clear mkD
    unfold Stop
    have stA : St 9 cdA.t := by rw [etA]; exact st_1 b1 b2 s1 s2 s3 l1 l2 l3
    have stB : St 9 cdB.t := by rw [etB]; exact st_2 l1 l2 l3
    have stC : St 9 cdC.t := by rw [etC]; exact st_3
    obtain ⟨dA, rfl, tA, mA⟩ := get_sd (a := a5) (t := ⟨hue, sh, li⟩) N9 (by k_mem)
    obtain ⟨dB, rfl, tB, mB⟩ := get_sd (a := a3) (t := ⟨0, 0, li⟩) N9 (by k_mem)
    obtain ⟨dC, rfl, tC, mC⟩ := get_sd (a := a1) (t := ⟨0, 0, 0⟩) N9 (by k_mem)
    obtain ⟨qA, rfl, pA1, pA2, nA⟩ := get_pd (p := a4) (c := cdA) (d := dA) N9 (etA.trans tA.symm) stA (by k_mem)
    obtain ⟨qB, rfl, pB1, pB2, nB⟩ := get_pd (p := a2) (c := cdB) (d := dB) N9 (etB.trans tB.symm) stB (by k_mem)
    obtain ⟨qC, rfl, pC1, pC2, nC⟩ := get_pd (p := a0) (c := cdC) (d := dC) N9 (etC.trans tC.symm) stC (by k_mem)
    obtain ⟨pO, pD, T0, epO, epD, N10, hT0, off0⟩ := norm5 N9 (a := tabObj #[]) (b := wO) (c := oD) (d := tabObj #[]) (e := tabObj #[]) (by k_mem) (by k_mem) (by k_mem) (by k_mem) (by k_mem)
    have kn : Kn pO pD lL D5 D0 (ds.map fun d => Value.ref d.a).length c0 [qA, qB, qC] ds ws0 T0 := by
      refine ⟨hT0 _ (by k_mem) ?_, ?_, ?_, ?_, hT0 _ (by k_mem) ?_, hT0 _ (by k_mem) ?_, ?_, off0⟩
      · exact offA epO epD rL.2.2.2.2.2.2.2.2.2.2.2.2
      · refine List.forall_mem_cons.mpr ⟨hT0 _ nA (offA epO epD r4.2.2.2.2.2.2.2), List.forall_mem_cons.mpr ⟨hT0 _ nB (offA epO epD r2.2.2.2.2.2.2.2.2.2), List.forall_mem_cons.mpr ⟨hT0 _ nC (offA epO epD r0.2.2.2.2.2.2.2.2.2.2.2), fun _ h => nomatch h⟩⟩⟩
      · refine List.forall_mem_cons.mpr ⟨?_, List.forall_mem_cons.mpr ⟨?_, List.forall_mem_cons.mpr ⟨?_, fun _ h => nomatch h⟩⟩⟩
        · rw [pA1]; exact hT0 _ (by k_mem) (offA epO epD lA.2.2.2)
        · rw [pB1]; exact hT0 _ (by k_mem) (offA epO epD lB.2.2.2.2)
        · rw [pC1]; exact hT0 _ (by k_mem) (offA epO epD lC.2.2.2.2.2)
      · refine List.forall_mem_cons.mpr ⟨?_, List.forall_mem_cons.mpr ⟨?_, List.forall_mem_cons.mpr ⟨?_, fun _ h => nomatch h⟩⟩⟩
        · rw [pA2]; exact hT0 _ mA (offA epO epD r5.2.2.2.2.2.2)
        · rw [pB2]; exact hT0 _ mB (offA epO epD r3.2.2.2.2.2.2.2.2)
        · rw [pC2]; exact hT0 _ mC (offA epO epD r1.2.2.2.2.2.2.2.2.2.2)
      · exact offE epO epD e1 e2 e3 e4 e5
      · exact offE epO epD lN.1 lN.2.1 lN.2.2.1 lN.2.2.2.1 lN.2.2.2.2.1
      · intro d hd
        have hm : d.o ∈ T3 := hT3 ▸ List.mem_map_of_mem hd
        refine hT0 _ ?_ (offF epO epD l00 (far _ hm))
        repeat' first | exact hm | apply List.mem_cons_of_mem
    clear N9 mA mB mC nA nB nC hT0
    refine iter_listT (by rfl) F9 N10 (List.mem_cons_of_mem _ (List.mem_cons_of_mem _ (List.mem_cons_of_mem _ (List.mem_cons_of_mem _ (List.mem_cons_of_mem _ kn.hl))))) (JL _ _ _ wO oD (Kn pO pD lL D5 D0 (ds.map fun d => Value.ref d.a).length c0 [qA, qB, qC] ds ws0)) ⟨_, T0, rfl, .inl rfl, kn, two_self⟩ ?step ?zero
    case step =>
      rintro I i v m₁ T s₁ oI hI hv ⟨tab, T1, rfl, htab, kn1, os, ob, rfl⟩ offI F10 N11
      obtain ⟨q, hqm, rfl⟩ : ∃ q ∈ [qA, qB, qC], v = .ref q.p := by
        rw [List.getElem?_toArray, List.getElem?_map] at hv
        obtain ⟨q, hq, rfl⟩ := Option.map_eq_some_iff.mp hv
        exact ⟨q, List.mem_of_getElem? hq, rfl⟩
      have N12 := stepN N11 (kn1.hq q hqm)
      clear F9 N10 N11
      have mkT : MkT := trivial
      k_steps
      rename_i gA FA1 NA1 gB gC F13 N13
      clear mkT FA1 NA1
      unfold Stop
      k_dflt (refine' c_trackA (T1 := T1) (C0 := q.c) (ds := ds) htab ?sub cH1 (off93 offI ?o1 ?o2 (kn1.hq q hqm) kn1.off) ?B F13 ?X N13 ?mL ?mC ?mD hok q.st ?hl ?T ?hk ?hd ?hu ?_)
      case sub => intro p hp; repeat' first | exact hp | apply List.mem_cons_of_mem
      case o1 => omega
      case o2 => omega
      case B => k_asm
      case X => k_asm
      case T => k_asm
      case hk => rfl
      case hd => ktr_room
      case hu => ktr_units
      case hl => omega
      case mL => have hp := kn1.h5; repeat' first | exact hp | apply List.mem_cons_of_mem
      case mC => have hp := kn1.hc q hqm; repeat' first | exact hp | apply List.mem_cons_of_mem
      case mD => intro d hd; have hp := kn1.hd d hd; repeat' first | exact hp | apply List.mem_cons_of_mem
      intro R S nR tab' fresh g14 tk14 F14 N14 ht' mR mS hS lt
      have N15 := midN N14
      have sub2 : ∀ p ∈ T1, p ∈ fresh ++ q.o :: T1 := fun p hp => List.mem_append_right _ (List.mem_cons_of_mem _ hp)
      have off2 : ∀ p ∈ fresh ++ q.o :: T1, OffA pO pD p := fun p hp => by
        rcases List.mem_append.mp hp with hp | hp
        · exact offF epO epD l00 (lt (_, wO) (List.mem_cons_of_mem _ List.mem_cons_self) p hp)
        · rcases List.mem_cons.mp hp with rfl | hp
          · exact kn1.off _ (kn1.hq q hqm)
          · exact kn1.off _ hp
      have offI2 : ∀ p ∈ fresh ++ q.o :: T1, p.1 ≠ I := fun p hp => by
        rcases List.mem_append.mp hp with hp | hp
        · exact Nat.ne_of_gt (lt (I, oI) List.mem_cons_self p hp)
        · refine offI p ?_
          have hp : p ∈ T1 := by
            rcases List.mem_cons.mp hp with rfl | hp
            · exact kn1.hq q hqm
            · exact hp
          repeat' first | exact hp | apply List.mem_cons_of_mem
      have htab2 := ht'.mono (T' := fresh ++ q.o :: T1) fun p hp => by
        rcases List.mem_append.mp hp with hp | hp
        · exact List.mem_append_left _ hp
        · exact sub2 p hp
      have mR2 := memMid (x := (93, tab')) mR
      have mS2 := fun c hc => memMid (x := (93, tab')) (mS c hc)
      have kn2 := kn1.mono sub2 off2
      clear N13 N14 F13 mR mS kn1 htab ht' lt sub2
      generalize fresh ++ q.o :: T1 = T2 at N15 off2 offI2 htab2 mR2 mS2 kn2
      have mkT : MkT := trivial
      k_steps
      clear mkT
      unfold Stop
      k_dflt (refine' c_states (S0 := q.d) (ds := ds) ?B F14 ?X N15 ?mS ?mL ?mD ?hl ?T ?hk ?hd ?hu ?_)
      case B => k_asm
      case X => k_asm
      case T => k_asm
      case hk => rfl
      case hd => ktr_room
      case hu => ktr_units
      case hl => omega
      case mS => have hp := kn2.hs q hqm; repeat' first | exact hp | apply List.mem_cons_of_mem
      case mL => have hp := kn2.h5; repeat' first | exact hp | apply List.mem_cons_of_mem
      case mD => intro d hd; have hp := kn2.hd d hd; repeat' first | exact hp | apply List.mem_cons_of_mem
      intro R2 S2 g16 tk16 n16 F16 N16 hS2 lt2
      obtain ⟨T4, eT4, N17⟩ := news_eq N16
      have sub4 := states_sub eT4
      have mT4 := states_mem eT4
      have mR4 : (R2, listOf (S2.map fun d => Value.ref d.a).toArray n16) ∈ T4 := eT4 ▸ List.mem_cons_self
      have vS2 : ∀ d ∈ S2, Valid d.t.h d.t.s d.t.l := valid_sds hS2 (q.e ▸ q.st) hds hok
      clear N15 N16 eT4 F14 lt2
      refine LCg.CompSrc.ledger (by rfl) F16 N17 mR4 (by rw [List.size_toArray, List.length_map, run_sds hS2, sizeLine_eq]; omega) (fun g => ?_)
      refine comp_rest (n := (S2.map fun d => Value.ref d.a).toArray.size) (JC S2 T4) ?cstep ?cfin _ 0 [] _ (Nat.zero_add _) jc_nil
      case cstep =>
        rintro j ys nw v I' oI' C oC D m₂ h tk E' hj ⟨Cs, rfl, rfl, ht, hfar⟩ hv hC hx F8 N8 off8 ne8
        obtain ⟨d, hd, rfl⟩ : ∃ d, S2[j]? = some d ∧ v = .ref d.a := by
          rw [List.getElem?_toArray, List.getElem?_map] at hv
          obtain ⟨d, hd, rfl⟩ := Option.map_eq_some_iff.mp hv
          exact ⟨d, hd, rfl⟩
        clear F16 N17
        have mkT : MkT := trivial
        k_steps
        clear mkT
        unfold Stop
        k_dflt (refine' c_colour (d := d) ?m1 (vS2 d (List.mem_of_getElem? hd)) ?B F8 ?X N8 ?T ?hk ?hd ?hu ?_)
        case m1 => exact List.mem_cons_of_mem _ (List.mem_cons_of_mem _ (List.mem_cons_of_mem _ (List.mem_append_right _ (mT4 d (List.mem_of_getElem? hd)))))
        case B => k_asm
        case X => k_asm
        case T => k_asm
        case hk => rfl
        case hd => ktr_room
        case hu => ktr_units
        intro c h17 tk17 et17 F17 N17 l17
        exact LCg.CompEnd.intro F17 N17 _ (jc_sub (d := c)) (jc_off (d := c) off8 l17) (.inr ⟨_, List.mem_append_right _ mR4, rfl, _, rfl⟩) (jc_next ht hd et17 hfar (fun q hq => l17 q (List.mem_cons_of_mem _ (List.mem_cons_of_mem _ (List.mem_cons_of_mem _ (List.mem_append_right _ hq))))))
      case cfin =>
        rintro ys nw ⟨Cs, rfl, rfl, ht, hfar⟩
        clear F16 N17
        unfold LCg.FinE
        intro D9 h19 tk19 F19 N19 o19
        k_dflt (refine' ne_cds (S := S) (S' := Cs) N19 ?hR List.mem_cons_self ?mS ?mS2 (same_run q.e hS hS2 ht) (valid_cds hS q.st hds hok) (none_booked F19 ?X) ?hu ?_)
        case hR => exact List.mem_cons_of_mem _ (List.mem_append_right _ (sub4 _ mR2))
        case mS => exact fun c hc => List.mem_cons_of_mem _ (List.mem_append_right _ (sub4 _ (mS2 c hc)))
        case mS2 => exact fun c hc => List.mem_cons_of_mem _ (List.mem_append_left _ (List.mem_map_of_mem hc))
        case X => k_asm
        case hu => ktr_units
        k_steps
        exact TurnEnd.intro F19 (N19.perm fun p hp => List.mem_cons_of_mem _ (List.mem_append_right _ (sub4 p (mem_swap hp)))) (off_again offI offI2) (List.mem_cons_of_mem _ (List.mem_cons_of_mem _ (List.mem_cons_of_mem _ (List.mem_cons_of_mem _ (List.mem_cons_of_mem _ kn2.hl))))) ⟨tab', T2, rfl, htab2, kn2, _, _, two_again⟩
    case zero =>
      rintro m₁ T g20 tk20 ⟨tab, T1, rfl, htab, kn1, os, ob, rfl⟩ F20 N20
      clear F9 N10 kn
      dsimp only
      have mkZ : MkZ := trivial
      k_steps
      clear mkZ
      unfold Stop
      have N21 := zeroN N20 kn1.h0
      clear N20
      have mkY : MkY := trivial
      k_steps
      clear mkY
      unfold Stop
      have m1 : 0 ≤ Int.fmod sm 6 := Int.fmod_nonneg_of_pos _ (by decide)
      have m2 : Int.fmod sm 6 < 6 := Int.fmod_lt_of_pos _ (by decide)
      refine sub_menu (b := pO) N21 List.mem_cons_self m1 m2 (Nat.le_of_ble_eq_true rfl) (pk_cons N21 (by k_mem) (by decide) (by omega) (pk_cons N21 (by k_mem) (by decide) (by omega) (pk_cons N21 (by k_mem) (by decide) (by omega) (pk_cons N21 (by k_mem) (by decide) (by omega) (pk_cons N21 (by k_mem) (by decide) (by omega) (pk_cons N21 (by k_mem) (by decide) (by omega) pk_nil)))))) (fun od hod hlo => ?_)
      have N22 := drop7 N21 hod
      clear N21 hod
      have off1 := kn1.off
      have f93 : ∀ p ∈ T1, p.1 ≠ 93 := fun p hp => (off1 p hp).1
      have f16 : ∀ p ∈ T1, p.1 ≠ 16 := fun p hp => (off1 p hp).2.2.2.1
      have f100 : ∀ p ∈ T1, p.1 ≠ 100 := fun p hp => (off1 p hp).2.2.2.2
      rw [epO, epD] at off1
      have fO : ∀ p ∈ T1, p.1 ≠ _ := fun p hp => (off1 p hp).2.1
      have fD : ∀ p ∈ T1, p.1 ≠ _ := fun p hp => (off1 p hp).2.2.1
      rw [epO] at hlo
      have mkT : MkT := trivial
      k_steps
      rename_i g23 oO FZ NZ dO f' c' oc' vs' tq ct g24 tk24 F24 N24 dc1 dc2 lc lf
      clear mkT FZ NZ
      unfold Stop
      obtain ⟨news0, hn1, hn2⟩ := norm16 N24
      k_dflt (refine' c_key (news0 := news0) (f := f') ?hT ?B F24 ?X N24 ?T ?hk ?hd ?hu hn1 ?_)
      case hT => k_mem
      case B => k_asm
      case X => k_asm
      case T => k_asm
      case hk => rfl
      case hd => ktr_room
      case hu => ktr_units
      intro K kd L1 oc g25 tk25 F25 N25 kM dOc hps
      obtain ⟨T5, N26, hm5, mkd, moc⟩ := key_norm N25 hn2
      have q1 := hm5 (_, oD) (by k_mem) (Nat.ne_of_gt (Nat.lt_succ_of_lt l00.2.1))
      have q2 := hm5 (_, oO) (by k_mem) (Nat.ne_of_gt (Nat.lt_succ_of_lt (Nat.lt_succ_of_lt l00.2.1)))
      have q3 := hm5 (f', _) (by k_mem) (by dsimp only; omega)
      have q4 := hm5 (c', oc') (by k_mem) (by dsimp only; omega)
      have q5 := hm5 (od.a, _) (by k_mem) (Nat.ne_of_gt (Nat.lt_trans (Nat.lt_succ_of_lt (Nat.lt_succ_of_lt l00.2.1)) hlo))
      have q7 := hm5 (93, tab) (by k_mem) (show @Ne Nat 93 16 by decide)
      have q8 := hm5 (100, _) (by k_mem) (show @Ne Nat 100 16 by decide)
      have q6 : ∀ p ∈ T1, p ∈ T5 := fun p hp => hm5 p (by repeat' first | exact hp | apply List.mem_cons_of_mem) (f16 p hp)
      clear hm5 hn1 hn2 N25 N24 F24 lc
      have mkS : MkS := trivial
      k_steps
      rename_i g27 F27 N27
      clear mkS
      unfold Stop
      obtain ⟨ww, eww⟩ := (show ∀ {w : World} {L1 K : Addr} {ds : List (Addr × Obj)}, KMade w.params L1 K ds → ∃ w' : World, w' = w from fun {w} {_} {_} {_} _ => ⟨w, rfl⟩) kM
      have hcall : ∀ di ∈ ds, ∀ dj ∈ ds, CallK ww 4 40 (.ref f') [.ref di.a, .ref dj.a] (fun l => ∀ q ∈ T5, q ∈ l) (fun x fresh => ∃ t, x = .int (ordOf od di.k - ordOf od dj.k) t) := by
        intro di hdi dj hdj
        have ki := (hok di hdi).k0
        have ki2 := (hok di hdi).k3
        have kj := (hok dj hdj).k0
        have kj2 := (hok dj hdj).k3
        intro p loose mean mg mb dp un gd cn cs a ccd cl outer A₀ base h₀ L m l s Q E B F X N T' hk hdp hun hs hret
        have N1 := headN N (hs _ (q6 _ (kn1.hd dj hdj)))
        have N2 := headN N1 (List.mem_cons_of_mem _ (hs _ (q6 _ (kn1.hd di hdi))))
        have N3 := headN N2 (List.mem_cons_of_mem _ (List.mem_cons_of_mem _ (hs _ q5)))
        have N4 := headN N3 (List.mem_cons_of_mem _ (List.mem_cons_of_mem _ (List.mem_cons_of_mem _ (hs _ q2))))
        have N5 := headN N4 (List.mem_cons_of_mem _ (List.mem_cons_of_mem _ (List.mem_cons_of_mem _ (List.mem_cons_of_mem _ (hs _ q4)))))
        have N6 := headN N5 (List.mem_cons_of_mem _ (List.mem_cons_of_mem _ (List.mem_cons_of_mem _ (List.mem_cons_of_mem _ (List.mem_cons_of_mem _ (hs _ q3))))))
        clear q1 q2 q3 q4 q5 q6 q7 q8 N N1 N2 N3 N4 N5
        refine wpAny_call ?_
        (refine' kla_code ?k1 ?k2 ?k3 ?k4 ?k5 ?kA ?kF ?kK ?k6 ?k7 ?k8 ?k9 ?kB ?_ ?c2 ?c3 ?c4 ?c5; (case kA => exact rfl); (case kF => exact rfl); (case kK => assumption); (case k1 => k_asm); (case k2 => k_asm); (case k3 => k_asm); (case k4 => k_asm); (case k5 => k_asm); (case k6 => k_mem); (case k7 => exact codeRec_news (by k_asm) (by k_mem) (by assumption) (by assumption)); (case k8 => ktr_room); (case k9 => exact rfl); (case c5 => decide); (case kB => exact locs rfl); (case c2 => exact rfl); (case c3 => exact rfl); (case c4 => exact rfl); k_whole; intro g' L' h' FG' F' N' B' X' T'; (try dsimp only); (try k_lift B'); (try k_fold))
        k_steps
        have em : ∀ k : Int, (if 1 > k then 1 else k) = max k 1 := fun k => by split <;> omega
        rw [em, em]
        refine hret _ [] _ _ (by k_asm) (News.perm (by k_asm) ?_) (fun _ _ _ h => nomatch h) ⟨_, rfl⟩
        intro q hq
        repeat' first | exact hq | apply List.mem_cons_of_mem
      rw [eww] at hcall
      clear eww
      have hcalls : ∀ i j, (hi : i < (ds.map fun d => Value.ref d.a).length) → (hj : j < (ds.map fun d => Value.ref d.a).length) → CallK _ 4 40 (.ref f') [(ds.map fun d => Value.ref d.a)[i], (ds.map fun d => Value.ref d.a)[j]] (fun l => ∀ q ∈ T5, q ∈ l) (fun x fresh => ∃ t, x = .int (rankOf od ds i - rankOf od ds j) t) := fun i j hi hj => by
        have hi2 : i < ds.length := by simpa using hi
        have hj2 : j < ds.length := by simpa using hj
        have e1 : rankOf od ds i = ordOf od ds[i].k := by unfold rankOf; rw [List.getElem?_eq_getElem hi2]
        have e2 : rankOf od ds j = ordOf od ds[j].k := by unfold rankOf; rw [List.getElem?_eq_getElem hj2]
        rw [e1, e2, List.getElem_map, List.getElem_map]
        exact hcall _ (List.getElem_mem hi2) _ (List.getElem_mem hj2)
      k_dflt (refine' sort_key (vs := ds.map fun d => Value.ref d.a) (r := rankOf od ds) F27 N27 ?hl ?h2 ?h64 kM mkd moc dOc ?hv ?hfn hcalls ?B ?X ?T ?hk ?hdp ?hun ?hd1 ?hu1 ?_)
      case hl => exact ⟨_, (N27 _ (q6 _ kn1.h5)).1, rfl, _, rfl⟩
      case h2 => rw [List.length_map]; omega
      case h64 => rw [List.length_map]; omega
      case hv => intro v hv; obtain ⟨d, _, rfl⟩ := List.mem_map.mp hv; exact ⟨_, rfl⟩
      case hfn => intro g h L m l N F X hs; exact FnAt.of N (hs _ q3)
      case B => k_asm
      case X => k_asm
      case T => k_asm
      case hk => exact rfl
      case hdp => ktr_room
      case hun => ktr_units
      case hd1 => (first | decide | (simp only [depth_caller]; decide) | (simp only [depth_deeper, depth_caller]; omega))
      case hu1 => ktr_units
      intro DR h30 tk30 cR F30 N30 lR
      have N31 := N30
      generalize hvs : ((kev (ans (rankOf od ds)) (kas_sort (ds.map fun d => Value.ref d.a).length)).toList.map fun i => (ds.map fun d => Value.ref d.a).getD i .none) = vR at N31
      clear N30
      have mkL : MkL := trivial
      k_steps
      clear mkL
      unfold Stop
      k_dflt (refine' two_comp (n := 3) (ordP od ds) (ax := D5) (its := ds.map fun d => Value.ref d.a) ?c0 ?c1 ?c2 ?c3 ?c4 ?c5 ?c6 ?c7 ?c8 ?c9 ?c10 ?c11 ?_)
      case c0 => k_asm
      case c1 => with_unfolding_all rfl
      case c2 => decide
      case c3 => rfl
      case c4 => decide
      case c5 => rfl
      case c6 => rfl
      case c7 => decide
      case c8 => intro _ _; rfl
      case c9 => intro _; rfl
      case c10 => rfl
      case c11 => rw [List.length_map, hds, sizeLine_eq]; omega
      k_steps
      unfold Stop TwoAt
      refine' ⟨_, _, _, _, _, rfl, ?f1, ?n1, ?r1, by decide, by decide, fun hh9 => ?_⟩
      case f1 => k_asm
      case r1 => assumption
      case n1 => k_asm
      refine TwoSrc.mk ?src ?i1 ?tst ?el ?fin
      case src =>
        have hp := q6 _ kn1.h5
        exact ⟨_, by repeat' first | exact hp | apply List.mem_cons_of_mem⟩
      case i1 =>
        intro C oC h tk m₂ E' R hoC F N hR
        have N1 := headN N (q := (_, oD)) (by repeat' first | exact q1 | apply List.mem_cons_of_mem)
        clear N
        k_steps
        exact hR _
      case tst =>
        intro i v C oC T9 h tk m₂ E' R hi hv sub9 hoC hmx hmy F N hR
        have z1 := sub9 (_, oO) (by repeat' first | exact q2 | apply List.mem_cons_of_mem)
        have z2 := sub9 (od.a, _) (by repeat' first | exact q5 | apply List.mem_cons_of_mem)
        have z3 : ∀ d ∈ ds, d.o ∈ T9 := fun d hd => sub9 _ (by have hp := q6 _ (kn1.hd d hd); repeat' first | exact hp | apply List.mem_cons_of_mem)
        obtain ⟨d, hd, rfl⟩ := List.mem_map.mp hv
        obtain ⟨ti, hmx⟩ := hmx
        have ki := (hok d hd).k0
        have ki2 := (hok d hd).k3
        have hp := ordP_at (od := od) (k := i) N (fun d hd => List.mem_cons_of_mem _ (z3 d hd)) hd
        rw [hp] at hR
        clear hp
        have N1 := headN N (q := (_, oO)) (List.mem_cons_of_mem _ z1)
        have N2 := headN N1 (q := (od.a, _)) (List.mem_cons_of_mem _ (List.mem_cons_of_mem _ z2))
        have N3 := headN N2 (q := d.o) (List.mem_cons_of_mem _ (List.mem_cons_of_mem _ (List.mem_cons_of_mem _ (z3 d hd))))
        clear N N1 N2 sub9 z1 z2 z3
        k_steps
        have em : ∀ k : Int, (if 1 > k then 1 else k) = max k 1 := fun k => by split <;> omega
        rw [em]
        refine hR _ _ (by k_asm) (News.perm (by k_asm) ?_)
        intro q hq
        repeat' first | exact hq | apply List.mem_cons_of_mem
      case el =>
        intro v C oC h tk m₂ E' R hoC hmy F N hR
        k_steps
        exact hR _
      case fin =>
        intro D9 h32 tk32 F32 N32 o32
        dsimp only
        have hrow : vR = (List.range 3).flatMap fun k : Nat => (ds.map fun d => Value.ref d.a).filter (ordP od ds k) := by
          rw [← hvs]
          refine sorted_row (by rw [List.length_map]; omega) (fun i hi => ?_) (fun k i hi => ?_)
          · have hi2 : i < ds.length := by simpa using hi
            have e1 : rankOf od ds i = ordOf od ds[i].k := by unfold rankOf; rw [List.getElem?_eq_getElem hi2]
            rw [e1]
            exact ordOf_3 od (hok _ (List.getElem_mem hi2)).k0 (hok _ (List.getElem_mem hi2)).k3
          · have hi2 : i < ds.length := by simpa using hi
            have e1 : rankOf od ds i = ordOf od ds[i].k := by unfold rankOf; rw [List.getElem?_eq_getElem hi2]
            rw [e1, List.getElem_map]
            exact ordP_at N32 (fun d hd => by have hp := q6 _ (kn1.hd d hd); repeat' first | exact hp | apply List.mem_cons_of_mem) (List.getElem_mem hi2)
        rw [← hrow] at N32
        refine ne_refs (xs := vR) ⟨_, (N32 (DR, _) (by k_mem)).1, rfl, _, rfl⟩ ⟨_, (N32 _ List.mem_cons_self).1, rfl, _, rfl⟩ ?_ ?hu ?_
        case hu => ktr_units
        · intro v hv
          rw [hrow] at hv
          obtain ⟨k, _, hv⟩ := List.mem_flatMap.mp hv
          obtain ⟨d, _, rfl⟩ := List.mem_map.mp (List.mem_filter.mp hv).1
          exact ⟨_, rfl⟩
        have hrs := hrow.trans (row_vals N32 (fun d hd => by have hp := q6 _ (kn1.hd d hd); repeat' first | exact hp | apply List.mem_cons_of_mem))
        have q9 : cdA.o ∈ T5 := q6 _ (pA1 ▸ kn1.hc qA List.mem_cons_self)
        clear hvs hrow o32
        have mkU : MkU := trivial
        k_steps
        clear mkU
        unfold Stop
        rename_i lC h33 F33 N33 l33
        have hrl : (rowOf (ordOf od) ds).length = 9 := (row_len fun d hd => ordOf_3 od (hok d hd).k0 (hok d hd).k3).trans hds
        k_dflt (refine' kmk_add_lit (zs := Value.ref cdA.a :: (rowOf (ordOf od) ds).map (fun d : Dd => Value.ref d.a)) F33 N33 (lst_of N33 List.mem_cons_self) ⟨_, (N33 (DR, _) (List.mem_cons_of_mem _ (List.mem_cons_of_mem _ List.mem_cons_self))).1, rfl, _, rfl⟩ ?zE ?_ ?zZ)
        case zE => rw [hrs]; rfl
        case zZ => rw [hrs]; simp only [List.length_map, hrl, sizeLine_eq, List.length_cons, List.length_nil]; omega
        intro DA h34 F34 N34 l34
        clear N33 F33
        have mkC : MkC := trivial
        k_steps
        clear mkC
        unfold Stop
        k_dflt (refine' c_reduce_done (C0 := cdA) (rs := rowOf (ordOf od) ds) ?B ?F ?X ?N ?mL ?mC ?mD ?hok stA ?hl ?T ?hk ?hd ?hu ?_)
        case B => k_asm
        case F => k_asm
        case X => k_asm
        case N => k_asm
        case T => k_asm
        case mL => exact List.mem_cons_self
        case mC => have hp := q9; repeat' first | exact hp | apply List.mem_cons_of_mem
        case mD => intro d hd; have hp := q6 _ (kn1.hd d (row_mem d hd)); repeat' first | exact hp | apply List.mem_cons_of_mem
        case hok => exact fun d hd => hok d (row_mem d hd)
        case hl => omega
        case hk => rfl
        case hd => ktr_room
        case hu => ktr_units
        intro cE TE h36 tk36 F36 N36 lt36 mE eE stE
        obtain ⟨ox0, oy0, oz0, oxy, oxz, oyz⟩ := od_in od
        have hfin : fin cdA.t (rowOf (ordOf od) ds) = fin cdA.t ds := by
          rw [etA]
          exact row_fin (j := 9) (x := od.x) (y := od.y) (z := od.z) ⟨(by dsimp only; omega), s3, (by dsimp only; omega), l3⟩ (by omega) (by decide) hok b1 b2 ox0 oy0 oz0 (ordOf_0 od) (ordOf_1 od) (ordOf_2 od) (ordOf_3' od) oxy oxz oyz
        rw [hfin, etA] at eE
        obtain ⟨T6, eT6, N37⟩ := news_eq N36
        have sub6 : ∀ q ∈ T5, q ∈ T6 := fun q hq => eT6 ▸ List.mem_append_right _ (by repeat' first | exact hq | apply List.mem_cons_of_mem)
        have mE6 : cE.o ∈ T6 := eT6 ▸ mE
        obtain ⟨ps6, hps6⟩ := hps
        have r1 := sub6 _ q1
        have r7 := sub6 _ q7
        have r8 := sub6 _ q8
        have r16 := sub6 _ (mkd _ hps6)
        have r5 := sub6 _ (q6 _ kn1.h5)
        have rD : ∀ d ∈ ds, d.o ∈ T6 := fun d hd => sub6 _ (q6 _ (kn1.hd d hd))
        have N38 := headN N37 r1
        clear N36 N34 F34 N37 r1 eT6 mE lt36 sub6 l33 l34 hcall hcalls q1 q2 q3 q4 q5 q6 q7 q8 q9 moc mkd lR hrs
        have mkC : MkC := trivial
        k_steps
        clear mkC
        unfold Stop
        rename_i D7 h37 F37 N39 l37
        obtain ⟨dX, rfl, tX, mX⟩ := get_sd (a := D7) (t := ⟨hue, sh, li⟩) N39 List.mem_cons_self
        k_dflt (refine' c_states (S0 := dX) (ds := ds) ?B F37 ?X N39 ?mS ?mL ?mD ?hl ?T ?hk ?hd ?hu ?_)
        case B => k_asm
        case X => k_asm
        case T => k_asm
        case hk => rfl
        case hd => ktr_room
        case hu => ktr_units
        case hl => omega
        case mS => exact mX
        case mL => exact List.mem_cons_of_mem _ (List.mem_cons_of_mem _ r5)
        case mD => exact fun d hd => List.mem_cons_of_mem _ (List.mem_cons_of_mem _ (rD d hd))
        intro R7 S7 g41 tk41 n41 F41 N41 hS7 lR7
        obtain ⟨S', x, rfl, hx⟩ := last_sd hS7
        rw [tX] at hx
        obtain ⟨T7, eT7, N42⟩ := news_eq N41
        have sub7 : ∀ q ∈ T6, q ∈ T7 := fun q hq => eT7 ▸ List.mem_cons_of_mem _ (List.mem_append_right _ (List.mem_cons_of_mem _ (List.mem_cons_of_mem _ hq)))
        have mR7 : (R7, listOf ((S' ++ [x]).map fun d => Value.ref d.a).toArray n41) ∈ T7 := eT7 ▸ List.mem_cons_self
        have mx7 : x.o ∈ T7 := eT7 ▸ List.mem_cons_of_mem _ (List.mem_append_left _ (List.mem_map_of_mem (List.mem_append_right _ List.mem_cons_self)))
        have mE7 := sub7 _ mE6
        have u7 := sub7 _ r7
        have u8 := sub7 _ r8
        have u16 := sub7 _ r16
        have hx9 : (((S' ++ [x]).map fun d => Value.ref d.a).toArray)[((S' ++ [x]).map fun d => Value.ref d.a).toArray.size - 1]? = some (Value.ref x.a) := by simp
        clear N41 N39 F37 eT7 sub7 r7 r8 r16 r5 rD mE6 mX l37 lR7 hS7
        have mkY : MkY := trivial
        k_steps
        clear mkY
        unfold Stop
        refine sub_last N42 mR7 hx9 ?_
        have ext : x.t = cE.t := hx.trans eE.symm
        have vE := stE.v
        obtain ⟨y1, y2, y3, y4, y5, y6, y7, y8⟩ := (show Valid x.t.h x.t.s x.t.l from by rw [ext]; exact vE)
        have N43 := headN (q := (x.a, tup3 (.int x.t.h x.u) (.int x.t.s x.v) (.int x.t.l x.w))) N42 mx7
        have N44 := headN (q := (cE.a, tup3 (.float (colF 0 cE.t.h cE.t.s cE.t.l) cE.u) (.float (colF 16 cE.t.h cE.t.s cE.t.l) cE.v) (.float (colF 32 cE.t.h cE.t.s cE.t.l) cE.w))) N43 (List.mem_cons_of_mem _ mE7)
        clear N42 N43 mR7 hx9 mx7 mE7
        have mkC : MkC := trivial
        k_steps
        clear mkC
        unfold Stop
        rename_i h44 F44 N44
        have vX : Valid x.t.h x.t.s x.t.l := ⟨y1, y2, y3, y4, y5, y6, y7, y8⟩
        k_dflt (refine' c_colour (d := x) ?zM vX ?B F44 ?X N44 ?T ?hk ?hd ?hu ?_)
        case zM => exact List.mem_cons_of_mem _ List.mem_cons_self
        case B => k_asm
        case X => k_asm
        case T => k_asm
        case hk => rfl
        case hd => ktr_room
        case hu => ktr_units
        intro cL h45 tk45 etL F45 N45 lL
        refine eq_cds (c := cE) (d := cL) (N45 cE.o (List.mem_cons_of_mem _ List.mem_cons_self)).1 (N45 cL.o List.mem_cons_self).1 (ext.symm.trans etL.symm) vE (none_booked F45 XK) ?hu ?_
        case hu => ktr_units
        have mkC : MkC := trivial
        k_steps
        clear mkC
        unfold Stop
        rename_i h47 F47 N47
        k_dflt (refine' c_hsv_stT (h := cE.t.h) (sh := cE.t.s) (l := cE.t.l) ?B F47 ?X N47 ?T ?hk cE.pu cE.pv cE.pw ?hd ?hu vE rfl rfl rfl ?_)
        case B => k_asm
        case X => k_asm
        case T => k_asm
        case hk => rfl
        case hd => ktr_room
        case hu => ktr_units
        intro DH t1 t2 t3 h46 tk46 F46 N46 lH p1 p2 p3 p4
        clear N47 F47
        have mkQ : MkQ := trivial
        k_steps
        clear mkQ
        unfold Stop
        rename_i DT h48 F48 N48 l48
        obtain ⟨z1, z2, z3, z4, z5, z6, z7, z8⟩ := vE
        rw [ext] at N48
        refine eq_tup3 (N48 (DH, _) (List.mem_cons_of_mem _ List.mem_cons_self)).1 (N48 (DT, _) List.mem_cons_self).1 p1 p2 p3 (Nat.succ_pos _) (Nat.succ_pos _) (Nat.succ_pos _) (none_booked F48 XK) ?hu (fl_self (le4 z1 z2) (by decide)) (fl_self (le12 z3 z4) (by decide)) (fl_self (le12 z5 z6) (by decide)) ?_
        case hu => ktr_units
        rename Shared.gens _ = #[] => hgE
        exact hKQ _ _ ⟨law_end F48 hgE rfl, trk_grown htab N48 (by repeat' first | exact u7 | apply List.mem_cons_of_mem), GrownAt.of N48 (by repeat' first | exact u16 | apply List.mem_cons_of_mem), GrownAt.of N48 (by repeat' first | exact u8 | apply List.mem_cons_of_mem), trivial⟩
end
end Mine
end
theorem PySem.Challenge.cw_mq0203_01_holds : PySem.Challenge.rw_mq0203_01.Holds := by
  exact Mine.law1
