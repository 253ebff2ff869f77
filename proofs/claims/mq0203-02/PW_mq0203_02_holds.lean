import PyProof.Rows.All
import Wide.All
import OpenK.AllK
import Wide.FinOn
import Flt.RightMore
import Flt.RightSqrt
import Flt.Calls
import PyProof.ListRange
import PySem.Challenge.RW_mq0203_02
set_option Elab.async false
section
namespace Mine
local macro_rules | `(tactic| walk_at $s:str) => do let k := Lean.Syntax.mkStrLit (s.getString ++ "!"); `(tactic| k_extra $k)
local macro_rules | `(tactic| k_all) => `(tactic| k_extra "k_all!")
local macro_rules | `(tactic| k_dflt done) => `(tactic| k_extra "k_dflt_done!")
local macro_rules | `(tactic| x_close) => `(tactic| k_extra "x_close!")
section
theorem clear_Hd2 : True := by k_with_none; trivial
open PySem PySem.W PyProof.Rows
set_option maxRecDepth 100000
set_option maxHeartbeats 8000000
def hv : Program := { PySem.Challenge.pw_mq0203_02 with main := { PySem.Challenge.pw_mq0203_02.main with body := (PySem.Challenge.pw_mq0203_02.main.body.drop 1).take 3 ++ (PySem.Challenge.pw_mq0203_02.main.body.drop 5).take 2 ++ PySem.Challenge.pw_mq0203_02.main.body.drop 9 } }
theorem said1 : OpenLaw.wellSaid PySem.Challenge.rw_mq0203_02 = true := by kernel_rfl!
local macro_rules | `(tactic| o_law) => `(tactic| refine holds_law said1 fun said => ?_)
theorem own_open (H : Hook) {d : DefRec} {kwd : List (Str × PySem.Expr)} (h1 : defOf hv PySem.Challenge.rw_mq0203_02.row.name = some (d, kwd)) (h2 : PySem.Challenge.rw_mq0203_02.row.prog.theDef PySem.Challenge.rw_mq0203_02.row.name = some (d.params, d.body, d.scope))
    (h3 : kwWritten? d.params.kwonlyargs d.params.kw_defaults = some kwd)
    (hl : LeftO PySem.Challenge.rw_mq0203_02.row.prog hv [Str.ofString "_initial_missing", Str.ofString "reduce"] (fun s => xlAt hv [] s && recOk (RowW.records (OpenRow.toRowW PySem.Challenge.rw_mq0203_02.row)) s) H.obs H.val 964)
    (hw : PySem.Challenge.rw_mq0203_02.row.promised) (hs : PySem.Challenge.rw_mq0203_02.row.wellSaid = true)
    (hc : WalkO hv [Str.ofString "_initial_missing", Str.ofString "reduce"] (XL hv []) H.says PySem.Challenge.rw_mq0203_02.row.toRowW d kwd fun f vs => call f vs) : PySem.Challenge.rw_mq0203_02.row.Holds :=
  PySem.W.holds_open hl H.of H.keeps (fun s e => xl_of s (Bool.and_eq_true_iff.mp e).1) XL.keeps h1 h2 h3 (fun s e => recFacts_of (Bool.and_eq_true_iff.mp e).2) (by rfl) hs (by decide +kernel) ⟨rfl, rfl, rfl, rfl, rfl, by decide +kernel⟩ hw hc
local macro_rules | `(tactic| o_head $H) => `(tactic| (refine own_open $H (by rfl) (by rfl) (by rfl) ?hl ?hw (by decide +kernel) ?hc; (case hl => intro w; kernel_rfl!)))
open_top hd for PySem.Challenge.rw_mq0203_02
end
theorem top_off : True := by w_top off; trivial
section
theorem clear_FltD : True := by k_with_none; trivial
open PySem PySem.Float64

noncomputable def fl (n : Int) (k : Nat) : UInt64 := ofBin (decide (n < 0)) n.natAbs (-(k : Int))

theorem V_inj {t t' : Nat} (h : V t = V t') : t = t' := by
  rcases Nat.lt_trichotomy t t' with q | q | q
  · exact absurd h (Nat.ne_of_lt (V_lt q))
  · exact q
  · exact absurd h.symm (Nat.ne_of_lt (V_lt q))

theorem ex_mag (N k : Nat) (hN : N < 2 ^ 53) (hk : k ≤ 1000) : ∃ t, t < infMag ∧ V t = N * 2 ^ (1074 - k) := by
  by_cases h0 : N = 0
  · subst h0; exact ⟨0, by decide, by rw [V_zero]; simp⟩
  · have hl := Nat.log2_lt h0 |>.mpr hN
    have h1 : 2 ^ N.log2 ≤ N := Nat.log2_self_le h0
    have h2 : N < 2 ^ (N.log2 + 1) := Nat.lt_log2_self
    have e53 : (2 : Nat) ^ 53 = 2 ^ (N.log2 + 1) * 2 ^ (52 - N.log2) := by rw [← Nat.pow_add]; congr 1; lia
    have e52 : (2 : Nat) ^ 52 = 2 ^ N.log2 * 2 ^ (52 - N.log2) := by rw [← Nat.pow_add]; congr 1; lia
    have hp := Nat.two_pow_pos (52 - N.log2)
    have q1 : N * 2 ^ (52 - N.log2) < 2 ^ 53 := by rw [e53]; exact Nat.mul_lt_mul_of_pos_right h2 hp
    have q2 : 2 ^ 52 ≤ N * 2 ^ (52 - N.log2) := by rw [e52]; exact Nat.mul_le_mul_right _ h1
    refine ⟨(1074 - k - (52 - N.log2)) * 2 ^ 52 + N * 2 ^ (52 - N.log2), ?_, ?_⟩
    · have : infMag = 2047 * 2 ^ 52 := rfl
      have h3 : (1074 - k - (52 - N.log2)) * 2 ^ 52 ≤ 1074 * 2 ^ 52 := Nat.mul_le_mul_right _ (by lia)
      lia
    · rw [V_at (Nat.le_of_lt q1) (.inl q2), Nat.mul_assoc, ← Nat.pow_add]
      congr 2; lia

theorem nn {x : Int} {n : Nat} (h0 : 0 ≤ x) (h1 : x < n) : x.natAbs < n := by omega
theorem dist0 {a b : Nat} (h : dist a b ≤ 0) : a = b :=
  have e := Nat.add_eq_zero_iff.mp (Nat.eq_zero_of_le_zero h)
  Nat.le_antisymm (Nat.le_of_sub_eq_zero e.1) (Nat.le_of_sub_eq_zero e.2)
theorem tz {a b c : Int} (h0 : 0 ≤ a) (h1 : 0 ≤ b) (e : a + b = c) : a.toNat + b.toNat = c.toNat := by rw [← Int.toNat_add h0 h1, e]
theorem eM {k j : Nat} (h : k + j ≤ 1000) : 1074 - k + (1074 - j) = 1074 + (1074 - (k + j)) := by
  have hk : k ≤ 1074 - j := Nat.le_sub_of_add_le (Nat.le_trans h (by decide))
  have hj : j ≤ 1074 := Nat.le_trans (Nat.le_add_left j k) (Nat.le_trans h (by decide))
  have e : 1074 - (k + j) = 1074 - j - k := by rw [Nat.add_comm k j, Nat.sub_sub]
  rw [e, ← Nat.add_sub_assoc hk, Nat.add_comm (1074 - k), ← Nat.add_sub_assoc (Nat.le_trans hk (Nat.sub_le ..)), Nat.add_comm 1074]
theorem right_pack {r : UInt64} {neg : Bool} {W D N k t : Nat} (h : Right r neg W D) (hD : 0 < D) (hN : N < 2 ^ 53) (hk : k ≤ 1000) (ht : t < infMag) (hV : V t = N * 2 ^ (1074 - k)) (hW : W = D * (N * 2 ^ (1074 - k))) : r = pack neg t := by
  obtain ⟨t0, rfl, hle, hinf, hnear⟩ := h
  have hb : N * 2 ^ (1074 - k) < 2 ^ 53 * 2 ^ 1074 := by
    have h1 : (2 : Nat) ^ (1074 - k) ≤ 2 ^ 1074 := Nat.pow_le_pow_right (by decide) (Nat.sub_le ..)
    have h2 := Nat.two_pow_pos (1074 - k)
    calc N * 2 ^ (1074 - k) < 2 ^ 53 * 2 ^ (1074 - k) := Nat.mul_lt_mul_of_pos_right hN h2
      _ ≤ _ := Nat.mul_le_mul_left _ h1
  have hne : t0 ≠ infMag := by
    intro e
    have h1 := hinf.mp e
    rw [hW] at h1
    have h2 : 2 * (D * (N * 2 ^ (1074 - k))) = D * (2 * (N * 2 ^ (1074 - k))) := by ac_rfl
    rw [h2] at h1
    have h3 := Nat.le_of_mul_le_mul_left h1 hD
    have h4 : 2 * (2 ^ 53 * 2 ^ 1074) ≤ (2 ^ 54 - 1) * 2 ^ 2045 := by decide +kernel
    exact absurd h3 (Nat.not_le.mpr (Nat.lt_of_lt_of_le (Nat.mul_lt_mul_of_pos_left hb (by decide)) h4))
  have hlt : t0 < infMag := Nat.lt_of_le_of_ne hle hne
  have hd := (hnear hlt t).1
  rw [hW, ← hV] at hd
  have h0 : dist (D * V t) (D * V t) = 0 := by unfold dist; lia
  rw [h0] at hd
  have h5 : D * V t = D * V t0 := by first | exact dist0 hd | exact (dist0 hd).symm
  rw [V_inj (Nat.eq_of_mul_eq_mul_left hD h5)]

theorem fl_pack {n : Int} {k t : Nat} (hn : n.natAbs < 2 ^ 53) (hk : k ≤ 1000) (ht : t < infMag) (hV : V t = n.natAbs * 2 ^ (1074 - k)) : fl n k = pack (decide (n < 0)) t := by
  have h := ofBin_right (neg := decide (n < 0)) (M := n.natAbs) (g := -(k : Int)) (by lia)
  refine right_pack h (by decide) hn hk ht hV ?_
  rw [Nat.one_mul]; congr 2; lia

theorem fl_right {r : UInt64} {n : Int} {k W D : Nat} (h : Right r (decide (n < 0)) W D) (hn : n.natAbs < 2 ^ 53) (hk : k ≤ 1000) (hD : 0 < D) (hW : W = D * (n.natAbs * 2 ^ (1074 - k))) : r = fl n k := by
  obtain ⟨t, ht, hV⟩ := ex_mag n.natAbs k hn hk
  rw [fl_pack hn hk ht hV]
  exact right_pack h hD hn hk ht hV hW

theorem fl_dec {n : Int} {k : Nat} (hn : n.natAbs < 2 ^ 53) (hk : k ≤ 1000) : ∃ m e, decode (fl n k) = .fin (decide (n < 0)) m e ∧ m * 2 ^ (e + 1074).toNat = n.natAbs * 2 ^ (1074 - k) ∧ -1074 ≤ e := by
  obtain ⟨t, ht, hV⟩ := ex_mag n.natAbs k hn hk
  rw [fl_pack hn hk ht hV]
  obtain ⟨m, e, h1, h2⟩ := decode_pack (decide (n < 0)) ht
  exact ⟨m, e, h1, h2.trans hV, decode_ge h1⟩

theorem sgn_abs (n : Int) (K : Nat) : sgn (decide (n < 0)) (n.natAbs * K) = n * (K : Int) := by
  rw [sgn_mul]
  congr 1
  unfold sgn
  by_cases h : n < 0
  · rw [decide_eq_true h, if_pos rfl]; lia
  · rw [decide_eq_false h, if_neg (by decide)]; lia

theorem fl_val {n : Int} {k : Nat} (hn : n.natAbs < 2 ^ 53) (hk : k ≤ 1000) : val (fl n k) = n * ((2 ^ (1074 - k) : Nat) : Int) := by
  obtain ⟨m, e, h1, h2, _⟩ := fl_dec hn hk
  rw [val_eq h1, h2, sgn_abs]

theorem pow_pos_int (c : Nat) : (0 : Int) < ((2 ^ c : Nat) : Int) := Int.ofNat_lt.mpr (Nat.two_pow_pos _)

theorem fl_zero (k : Nat) : fl 0 k = zero false := by
  unfold fl zero ofBin ofFrac
  have : ∀ d, roundMag 0 d = 0 := fun d => rfl
  simp only [shift]
  split <;> simp [this]

theorem fl_add {a b : Int} {k : Nat} (ha : a.natAbs < 2 ^ 53) (hb : b.natAbs < 2 ^ 53) (hab : (a + b).natAbs < 2 ^ 53) (hk : k ≤ 1000) : add (fl a k) (fl b k) = fl (a + b) k := by
  obtain ⟨m, e, h1, _, _⟩ := fl_dec ha hk
  obtain ⟨m', e', h1', _, _⟩ := fl_dec hb hk
  have h := add_right h1 h1'
  rw [fl_val ha hk, fl_val hb hk, ← Int.add_mul] at h
  have hp := pow_pos_int (1074 - k)
  by_cases h0 : a + b = 0
  · rw [h.1 (by rw [h0, Int.zero_mul]), h0, fl_zero]
    congr 1
    by_cases q : a < 0
    · rw [decide_eq_true q, decide_eq_false (by lia : ¬ b < 0)]; rfl
    · rw [decide_eq_false q]; rfl
  · have h2 := h.2 (by intro e; rcases Int.mul_eq_zero.mp e with q | q; exact h0 q; lia)
    refine fl_right ?_ hab hk (by decide) ?_ (W := ((a + b) * ((2 ^ (1074 - k) : Nat) : Int)).natAbs) (D := 1)
    · have e : decide ((a + b) * ((2 ^ (1074 - k) : Nat) : Int) < 0) = decide (a + b < 0) := by
        congr 1
        refine propext ⟨fun q => ?_, fun q => Int.mul_neg_of_neg_of_pos q hp⟩
        by_cases z : a + b < 0
        · exact z
        · have z2 := Int.mul_nonneg (show (0 : Int) ≤ a + b by lia) (Int.le_of_lt hp)
          lia
      rw [← e]; exact h2
    · rw [Int.natAbs_mul, Nat.one_mul]; rfl


theorem sign_scale (z : Int) (c : Nat) : decide (z * ((2 ^ c : Nat) : Int) < 0) = decide (z < 0) := by
  have hp := pow_pos_int c
  congr 1
  refine propext ⟨fun q => ?_, fun q => Int.mul_neg_of_neg_of_pos q hp⟩
  by_cases h : z < 0
  · exact h
  · have z2 := Int.mul_nonneg (show (0 : Int) ≤ z by lia) (Int.le_of_lt hp)
    lia

theorem fl_sub {a b : Int} {k : Nat} (ha : a.natAbs < 2 ^ 53) (hb : b.natAbs < 2 ^ 53) (hab : (a - b).natAbs < 2 ^ 53) (hk : k ≤ 1000) : sub (fl a k) (fl b k) = fl (a - b) k := by
  obtain ⟨m, e, h1, _, _⟩ := fl_dec ha hk
  obtain ⟨m', e', h1', _, _⟩ := fl_dec hb hk
  have h := sub_right h1 h1'
  rw [fl_val ha hk, fl_val hb hk, ← Int.sub_mul] at h
  have hp := pow_pos_int (1074 - k)
  by_cases h0 : a - b = 0
  · rw [h.1 (by rw [h0, Int.zero_mul]), h0, fl_zero]
    congr 1
    have : a = b := by lia
    subst this
    cases decide (a < 0) <;> rfl
  · have h2 := h.2 (by intro e; rcases Int.mul_eq_zero.mp e with q | q; exact h0 q; lia)
    rw [sign_scale] at h2
    refine fl_right h2 hab hk (by decide) ?_
    rw [Int.natAbs_mul, Nat.one_mul]; rfl

theorem mul_helper (A B P Q K R : Nat) (h : P * Q = K * R) : A * P * (B * Q) = K * (A * B * R) := by
  calc A * P * (B * Q) = A * B * (P * Q) := by ac_rfl
    _ = _ := by rw [h]; ac_rfl
theorem div_helper (a b c Pk K Pj Pi IJ k2 T : Nat) (hN : a * IJ = c * b * k2) (s1 : Pk * K = IJ * T) (s2 : Pj * Pi = k2 * T) : a * Pk * K = b * Pj * (c * Pi) := by
  calc a * Pk * K = a * (Pk * K) := by ac_rfl
    _ = a * IJ * T := by rw [s1]; ac_rfl
    _ = c * b * (k2 * T) := by rw [hN]; ac_rfl
    _ = c * b * (Pj * Pi) := by rw [s2]
    _ = _ := by ac_rfl

theorem fl_mul {a b : Int} {k j : Nat} (ha0 : 0 ≤ a) (hb0 : 0 ≤ b) (ha : a.natAbs < 2 ^ 53) (hb : b.natAbs < 2 ^ 53) (hab : (a * b).natAbs < 2 ^ 53) (hkj : k + j ≤ 1000) : mul (fl a k) (fl b j) = fl (a * b) (k + j) := by
  obtain ⟨m, e, h1, _, _⟩ := fl_dec ha (by lia : k ≤ 1000)
  obtain ⟨m', e', h1', _, _⟩ := fl_dec hb (by lia : j ≤ 1000)
  have h := mul_right h1 h1'
  rw [fl_val ha (by lia), fl_val hb (by lia)] at h
  have e0 : (decide (a < 0) != decide (b < 0)) = decide (a * b < 0) := by
    have := Int.mul_nonneg ha0 hb0
    rw [decide_eq_false (Int.not_lt.mpr ha0), decide_eq_false (Int.not_lt.mpr hb0), decide_eq_false (Int.not_lt.mpr this)]; rfl
  rw [e0] at h
  refine fl_right h hab hkj (Nat.two_pow_pos _) ?_
  rw [Int.natAbs_mul, Int.natAbs_mul, Int.natAbs_mul]
  show a.natAbs * 2 ^ (1074 - k) * (b.natAbs * 2 ^ (1074 - j)) = _
  refine mul_helper _ _ _ _ _ _ ?_
  rw [← Nat.pow_add, ← Nat.pow_add, eM hkj]

theorem fl_dec_ne {n : Int} {k : Nat} (hn : n.natAbs < 2 ^ 53) (hk : k ≤ 1000) (h0 : n ≠ 0) : ∃ m e, decode (fl n k) = .fin (decide (n < 0)) m e ∧ m ≠ 0 := by
  obtain ⟨m, e, h1, h2, _⟩ := fl_dec hn hk
  refine ⟨m, e, h1, fun q => ?_⟩
  subst q
  rw [Nat.zero_mul] at h2
  have := Nat.mul_pos (show 0 < n.natAbs by lia) (Nat.two_pow_pos (1074 - k))
  lia

theorem le74 {k : Nat} (hk : k ≤ 500) : k ≤ 1074 := Nat.le_trans hk (by decide)
theorem sN1 {k i j : Nat} (hk : k ≤ 500) (hj : j ≤ 500) (hi : i ≤ 500) : 1074 - k + 1074 = i + j + (2148 - k - i - j) := by
  have e : 2148 - k = 1074 - k + 1074 := Nat.sub_add_comm (n := 1074) (m := 1074) (le74 hk)
  have h : i + j ≤ 1074 - k + 1074 := Nat.le_trans (Nat.add_le_add hi hj) (Nat.le_trans (by decide) (Nat.le_add_left ..))
  rw [e, Nat.sub_sub _ i j, Nat.add_sub_cancel' h]
theorem sN2 {k i j : Nat} (hk : k ≤ 500) (hj : j ≤ 500) (hi : i ≤ 500) : 1074 - j + (1074 - i) = k + (2148 - k - i - j) := by
  have h1 : 2148 - k - i - j = 2148 - (i + j) - k := by rw [Nat.sub_sub, Nat.sub_sub, Nat.sub_sub, Nat.add_assoc, Nat.add_comm k, Nat.add_assoc]
  have h2 : 2148 - (i + j) = 1074 - i + (1074 - j) := by
    rw [← Nat.sub_sub, show (2148 : Nat) - i = 1074 - i + 1074 from Nat.sub_add_comm (n := 1074) (m := 1074) (le74 hi), Nat.add_sub_assoc (le74 hj)]
  have h3 : k ≤ 1074 - i + (1074 - j) := Nat.le_trans hk (Nat.le_trans (Nat.le_sub_of_add_le (Nat.le_trans (Nat.add_le_add (Nat.le_refl 500) hi) (by decide))) (Nat.le_add_right ..))
  rw [h1, h2, Nat.add_sub_cancel' h3, Nat.add_comm]
theorem fl_div {a b c : Int} {k j i : Nat} (hb0 : 0 < b) (ha : a.natAbs < 2 ^ 53) (hb : b.natAbs < 2 ^ 53) (hc : c.natAbs < 2 ^ 53) (hk : k ≤ 500) (hj : j ≤ 500) (hi : i ≤ 500) (he : a * 2 ^ (i + j) = c * b * 2 ^ k) : div (fl a k) (fl b j) = fl c i := by
  obtain ⟨m, e, h1, _, _⟩ := fl_dec ha (by lia : k ≤ 1000)
  obtain ⟨m', e', h1', hm'⟩ := fl_dec_ne hb (by lia : j ≤ 1000) (by lia)
  have h := div_right h1 h1' hm'
  rw [fl_val ha (by lia), fl_val hb (by lia)] at h
  have pk : (0 : Int) < 2 ^ k := Int.pow_pos (by decide)
  have pij : (0 : Int) < 2 ^ (i + j) := Int.pow_pos (by decide)
  have e0 : (decide (a < 0) != decide (b < 0)) = decide (c < 0) := by
    rw [decide_eq_false (by lia : ¬ b < 0), Bool.bne_false]
    congr 1
    refine propext ⟨fun q => ?_, fun q => ?_⟩
    · by_cases z : c < 0
      · exact z
      · have z1 := Int.mul_nonneg (Int.mul_nonneg (Int.not_lt.mp z) (Int.le_of_lt hb0)) (Int.le_of_lt pk)
        have z2 := Int.mul_neg_of_neg_of_pos q pij
        rw [← he] at z1
        exact absurd z1 (Int.not_le.mpr z2)
    · by_cases z : a < 0
      · exact z
      · have z1 := Int.mul_neg_of_neg_of_pos (Int.mul_neg_of_neg_of_pos q hb0) pk
        have z2 := Int.mul_nonneg (Int.not_lt.mp z) (Int.le_of_lt pij)
        rw [he] at z2
        exact absurd z2 (Int.not_le.mpr z1)
  rw [e0] at h
  have hpos : 0 < (b * ((2 ^ (1074 - j) : Nat) : Int)).natAbs := by
    rw [Int.natAbs_mul]; exact Nat.mul_pos (by omega) (Nat.two_pow_pos _)
  refine fl_right h hc (by lia) hpos ?_
  rw [Int.natAbs_mul, Int.natAbs_mul]
  show a.natAbs * 2 ^ (1074 - k) * 2 ^ 1074 = b.natAbs * 2 ^ (1074 - j) * (c.natAbs * 2 ^ (1074 - i))
  have hN : a.natAbs * 2 ^ (i + j) = c.natAbs * b.natAbs * 2 ^ k := by
    have := congrArg Int.natAbs he
    rw [Int.natAbs_mul, Int.natAbs_mul, Int.natAbs_mul, Int.natAbs_pow, Int.natAbs_pow] at this
    exact this
  have s1 : (2 : Nat) ^ (1074 - k) * 2 ^ 1074 = 2 ^ (i + j) * 2 ^ (2148 - k - i - j) := by rw [← Nat.pow_add, ← Nat.pow_add, sN1 hk hj hi]
  have s2 : (2 : Nat) ^ (1074 - j) * 2 ^ (1074 - i) = 2 ^ k * 2 ^ (2148 - k - i - j) := by rw [← Nat.pow_add, ← Nat.pow_add, sN2 hk hj hi]
  exact div_helper _ _ _ _ _ _ _ _ _ _ hN s1 s2

theorem fl_cmp {a b : Int} {k : Nat} (ha : a.natAbs < 2 ^ 53) (hb : b.natAbs < 2 ^ 53) (hk : k ≤ 1000) : cmp (fl a k) (fl b k) = some (compare a b) := by
  obtain ⟨m, e, h1, _, _⟩ := fl_dec ha hk
  obtain ⟨m', e', h1', _, _⟩ := fl_dec hb hk
  rw [cmp_right h1 h1', fl_val ha hk, fl_val hb hk]
  have hp := pow_pos_int (1074 - k)
  congr 1
  rcases Int.lt_trichotomy a b with h | h | h
  · rw [Int.compare_eq_lt.mpr h, Int.compare_eq_lt.mpr (Int.mul_lt_mul_of_pos_right h hp)]
  · subst h; simp
  · rw [Int.compare_eq_gt.mpr h, Int.compare_eq_gt.mpr (Int.mul_lt_mul_of_pos_right h hp)]

theorem fl_up {a : Int} {k j : Nat} (ha : (a * 2 ^ j).natAbs < 2 ^ 53) (hkj : k + j ≤ 1000) : fl (a * 2 ^ j) (k + j) = fl a k := by
  have hpw : (1 : Nat) ≤ 2 ^ j := Nat.two_pow_pos j
  have e0 : (a * 2 ^ j).natAbs = a.natAbs * 2 ^ j := by rw [Int.natAbs_mul, Int.natAbs_pow]; rfl
  have ha' : a.natAbs < 2 ^ 53 := by
    rw [e0] at ha
    exact Nat.lt_of_le_of_lt (Nat.le_mul_of_pos_right _ hpw) ha
  obtain ⟨t, ht, hV⟩ := ex_mag a.natAbs k ha' (by lia)
  rw [fl_pack ha' (by lia) ht hV, fl_pack ha hkj ht ?_]
  · congr 1
    have := sign_scale a j
    rw [← this]
    congr 2
  · rw [hV, e0, Nat.mul_assoc, ← Nat.pow_add]; congr 2; lia

theorem fl_ofInt {i : Int} (hi : i.natAbs < 2 ^ 53) : ofInt i = fl i 0 := by
  have h := ofInt_right i
  refine fl_right h hi (by decide) (by decide) ?_
  rw [Nat.one_mul]

theorem fl_ofFrac {n : Int} {d k : Nat} (hn : n.natAbs < 2 ^ 53) (hk : k ≤ 1000) (hd : d = 2 ^ k) : ofFrac (decide (n < 0)) n.natAbs d = fl n k := by
  subst hd
  refine fl_right (ofFrac_right (W := n.natAbs * 2 ^ (1074 - k)) (D := 1) (Nat.two_pow_pos k) ?_ (by decide)) hn hk (by decide) (by rw [Nat.one_mul])
  rw [Nat.mul_one, Nat.mul_assoc, ← Nat.pow_add]; congr 2; lia

theorem fl_isNaN {n : Int} {k : Nat} (hn : n.natAbs < 2 ^ 53) (hk : k ≤ 1000) : isNaN (fl n k) = false := by
  obtain ⟨m, e, h1, _, _⟩ := fl_dec hn hk
  unfold isNaN; rw [h1]
theorem fl_isInf {n : Int} {k : Nat} (hn : n.natAbs < 2 ^ 53) (hk : k ≤ 1000) : isInf (fl n k) = false := by
  obtain ⟨m, e, h1, _, _⟩ := fl_dec hn hk
  unfold isInf; rw [h1]
theorem fl_isZero {n : Int} {k : Nat} (hn : n.natAbs < 2 ^ 53) (hk : k ≤ 1000) : isZero (fl n k) = decide (n = 0) := by
  by_cases h0 : n = 0
  · subst h0; rw [fl_zero]; decide +kernel
  · obtain ⟨m, e, h1, h2⟩ := fl_dec_ne hn hk h0
    unfold isZero; rw [h1, decide_eq_false h0]
    cases m with
    | zero => exact absurd rfl h2
    | succ m => rfl

theorem fl_trunc {n k : Nat} (hn : n < 2 ^ 53) (hk : k ≤ 1000) : Flt.toInt truncOf (fl (n : Int) k) = ((n / 2 ^ k : Nat) : Int) := by
  obtain ⟨m, e, h1, h2, h3⟩ := fl_dec (n := (n : Int)) (by simpa using hn) hk
  unfold Flt.toInt; rw [h1]
  have hneg : decide ((n : Int) < 0) = false := decide_eq_false (by lia)
  rw [hneg]
  show truncOf false m e = _
  have hn' : ((n : Int)).natAbs = n := rfl
  rw [hn'] at h2
  unfold truncOf floorOf sgn
  simp only [Bool.false_eq_true, if_false]
  have hpk := Nat.two_pow_pos k
  split
  · rename_i he
    have e1 : (e + 1074).toNat = e.toNat + (1074 - k) + k := by
      rw [Int.toNat_add he (by decide), Nat.add_assoc, Nat.sub_add_cancel (Nat.le_trans hk (by decide))]; rfl
    rw [e1, Nat.pow_add, Nat.pow_add] at h2
    have h4 : n = m * 2 ^ e.toNat * 2 ^ k := by
      refine Nat.eq_of_mul_eq_mul_right (Nat.two_pow_pos (1074 - k)) ?_
      rw [← h2]; ac_rfl
    rw [h4, Nat.mul_div_cancel _ hpk]
    simp
  · rename_i he
    have e1 : (1074 - k) + k = (e + 1074).toNat + (-e).toNat := by
      rw [Nat.sub_add_cancel (Nat.le_trans hk (by decide))]
      exact (tz (c := 1074) (by omega) (by omega) (by omega)).symm
    have hpe := Nat.two_pow_pos (-e).toNat
    have h4 : m * 2 ^ k = n * 2 ^ (-e).toNat := by
      refine Nat.eq_of_mul_eq_mul_right (Nat.mul_pos (Nat.two_pow_pos (1074 - k)) (Nat.two_pow_pos (e + 1074).toNat)) ?_
      have e2 : (2 : Nat) ^ (1074 - k) * 2 ^ k = 2 ^ (e + 1074).toNat * 2 ^ (-e).toNat := by rw [← Nat.pow_add, ← Nat.pow_add, e1]
      calc m * 2 ^ k * (2 ^ (1074 - k) * 2 ^ (e + 1074).toNat) = (m * 2 ^ (e + 1074).toNat) * (2 ^ (1074 - k) * 2 ^ k) := by ac_rfl
        _ = n * 2 ^ (1074 - k) * (2 ^ (e + 1074).toNat * 2 ^ (-e).toNat) := by rw [h2, e2]
        _ = _ := by ac_rfl
    have h5 : m / 2 ^ (-e).toNat = n / 2 ^ k := by
      rw [← Nat.mul_div_mul_right m (2 ^ (-e).toNat) hpk, h4, Nat.mul_comm (2 ^ (-e).toNat) (2 ^ k), Nat.mul_div_mul_right _ _ hpe]
    rw [← h5]
    have : ((2 : Int) ^ (-e).toNat) = ((2 ^ (-e).toNat : Nat) : Int) := by simp
    rw [this]
    exact Int.ofNat_fdiv m (2 ^ (-e).toNat) |>.symm


theorem fl_one : one = fl 1 0 := by decide +kernel

theorem tn {e f : Int} (h : -1074 ≤ e) (h' : -1074 ≤ f) : (e - min e f).toNat + (min e f + 1074).toNat = (e + 1074).toNat ∧ (f - min e f).toNat + (min e f + 1074).toNat = (f + 1074).toNat ∧ -1074 ≤ min e f := by
  have h1 : min e f ≤ e := Int.min_le_left ..
  have h2 : min e f ≤ f := Int.min_le_right ..
  have h3 : -1074 ≤ min e f := Int.le_min.mpr ⟨h, h'⟩
  generalize min e f = m at *
  have h4 : 0 ≤ m + 1074 := by omega
  exact ⟨tz (Int.sub_nonneg_of_le h1) h4 (by omega), tz (Int.sub_nonneg_of_le h2) h4 (by omega), h3⟩
theorem neg_mod {a : Int} {P : Nat} (hneg : a < 0) (hP : 0 < P) (hp : 0 < a.natAbs % P) : a % (P : Int) = -((a.natAbs % P : Nat) : Int) + P := by
  have hl := Nat.mod_lt a.natAbs hP
  have h : ((a.natAbs % P + P * (a.natAbs / P) : Nat) : Int) = (a.natAbs : Int) := congrArg Nat.cast (Nat.mod_add_div a.natAbs P)
  rw [Int.natCast_add, Int.natCast_mul] at h
  have e : a = (-((a.natAbs % P : Nat) : Int) + P) + P * (-((a.natAbs / P : Nat) : Int) - 1) := by
    rw [Int.mul_sub, Int.mul_neg, Int.mul_one]
    generalize (P : Int) * ((a.natAbs / P : Nat) : Int) = y at *
    generalize ((a.natAbs % P : Nat) : Int) = x at *
    omega
  conv => lhs; rw [e]
  rw [Int.add_mul_emod_self_left]
  exact Int.emod_eq_of_lt (by omega) (by omega)
theorem fmod_one {a : Int} {k : Nat} (ha : a.natAbs < 2 ^ 53) (hk : k ≤ 1000) : Right (fmod (fl a k) (fl 1 0)) (decide (a < 0)) (a.natAbs % 2 ^ k * 2 ^ (1074 - k)) 1 := by
  obtain ⟨m, e, h1, h2, h3⟩ := fl_dec ha hk
  obtain ⟨m', e', h1', h2', h3'⟩ := fl_dec (n := 1) (k := 0) (by decide) (by decide)
  obtain ⟨m'', e'', h1'', hm'⟩ := fl_dec_ne (n := 1) (k := 0) (by decide) (by decide) (by decide)
  rw [h1'] at h1''
  cases h1''
  have hf : fmod (fl a k) (fl 1 0) = ofBin (decide (a < 0)) (m * 2 ^ (e - min e e').toNat % (m' * 2 ^ (e' - min e e').toNat)) (min e e') := by
    unfold fmod
    rw [h1, h1']
    have h0 : (m' == 0) = false := by simpa using hm'
    simp only [h0, align, sgn, Bool.false_eq_true, if_false]
    rfl
  rw [hf]
  have hR := ofBin_right (neg := decide (a < 0)) (M := m * 2 ^ (e - min e e').toNat % (m' * 2 ^ (e' - min e e').toNat)) (g := min e e') (tn h3 h3').2.2
  have hc : (m * 2 ^ (e - min e e').toNat % (m' * 2 ^ (e' - min e e').toNat)) * 2 ^ (min e e' + 1074).toNat = a.natAbs % 2 ^ k * 2 ^ (1074 - k) := by
    rw [← Nat.mul_mod_mul_right, Nat.mul_assoc, Nat.mul_assoc, ← Nat.pow_add, ← Nat.pow_add]
    have q1 : (e - min e e').toNat + (min e e' + 1074).toNat = (e + 1074).toNat := (tn h3 h3').1
    have q2 : (e' - min e e').toNat + (min e e' + 1074).toNat = (e' + 1074).toNat := (tn h3 h3').2.1
    rw [q1, q2, h2, h2']
    have q0 : (1 : Int).natAbs = 1 := rfl
    rw [q0]
    have q3 : (1 * 2 ^ (1074 - 0) : Nat) = 2 ^ k * 2 ^ (1074 - k) := by rw [← Nat.pow_add, Nat.one_mul]; exact congrArg (fun z => 2 ^ z) (by lia)
    rw [q3, Nat.mul_mod_mul_right]
  rw [hc] at hR
  exact hR

theorem fl_mod1 {a : Int} {k : Nat} (ha : a.natAbs < 2 ^ 52) (hk : k ≤ 52) : (divmod (fl a k) (fl 1 0)).2 = fl (a % 2 ^ k) k := by
  have ha' : a.natAbs < 2 ^ 53 := by lia
  have hR := fmod_one ha' (by lia : k ≤ 1000)
  have hpk := Nat.two_pow_pos k
  have hpk2 : (2 : Nat) ^ k ≤ 2 ^ 52 := Nat.pow_le_pow_right (by decide) hk
  have hr := Nat.mod_lt a.natAbs hpk
  have hic : ((2 : Int) ^ k) = ((2 ^ k : Nat) : Int) := by simp
  unfold divmod
  simp only
  by_cases h0 : a.natAbs % 2 ^ k = 0
  · have hz : fmod (fl a k) (fl 1 0) = pack (decide (a < 0)) 0 := by
      refine right_pack hR (by decide) (by decide : 0 < 2 ^ 53) (by lia : k ≤ 1000) (by decide) (by rw [V_zero, Nat.zero_mul]) ?_
      rw [h0, Nat.zero_mul]
    have ez : a % 2 ^ k = 0 := by
      rw [hic]
      have hd : 2 ^ k ∣ a.natAbs := Nat.dvd_of_mod_eq_zero h0
      exact Int.emod_eq_zero_of_dvd (Int.ofNat_dvd_left.mpr hd)
    rw [hz, ez]
    have e1 : isZero (pack (decide (a < 0)) 0) = true := by cases decide (a < 0) <;> decide +kernel
    simp only [e1, if_true]
    rw [fl_zero, ← fl_one]
    decide +kernel
  · have hp : 0 < a.natAbs % 2 ^ k := by lia
    by_cases hneg : a < 0
    · have e2 : fmod (fl a k) (fl 1 0) = fl (-((a.natAbs % 2 ^ k : Nat) : Int)) k := by
        refine fl_right (n := -((a.natAbs % 2 ^ k : Nat) : Int)) ?_ (by lia) (by lia) (by decide) ?_ (W := a.natAbs % 2 ^ k * 2 ^ (1074 - k)) (D := 1)
        · rw [decide_eq_true (by lia : -((a.natAbs % 2 ^ k : Nat) : Int) < 0)]
          rw [decide_eq_true hneg] at hR
          exact hR
        · rw [Nat.one_mul, Int.natAbs_neg]; rfl
      have e3 : a % 2 ^ k = -((a.natAbs % 2 ^ k : Nat) : Int) + 2 ^ k := by rw [hic]; exact neg_mod hneg hpk hp
      rw [e2]
      have hz : isZero (fl (-((a.natAbs % 2 ^ k : Nat) : Int)) k) = false := by
        rw [fl_isZero (by lia) (by lia)]; exact decide_eq_false (by lia)
      have hl1 : lt (fl 1 0) (zero false) = false := by decide +kernel
      have hl2 : lt (fl (-((a.natAbs % 2 ^ k : Nat) : Int)) k) (zero false) = true := by
        rw [← fl_zero k]; unfold lt
        rw [fl_cmp (by lia) (by decide) (by lia), Int.compare_eq_lt.mpr (by lia)]; rfl
      have hone : fl 1 0 = fl (2 ^ k) k := by
        have := fl_up (a := 1) (k := 0) (j := k) (by rw [Int.one_mul, hic]; show 2 ^ k < 2 ^ 53; lia) (by lia)
        rw [Int.one_mul, Nat.zero_add] at this
        exact this.symm
      simp only [hz, hl1, hl2, Bool.false_eq_true, if_false, bne_self_eq_false, Bool.false_bne, if_true, Bool.true_eq_false, Bool.bne_true, Bool.not_false]
      rw [hone, fl_add (by lia) (by rw [hic]; show 2 ^ k < 2 ^ 53; lia) (by rw [hic]; lia) (by lia), e3]
    · have e2 : fmod (fl a k) (fl 1 0) = fl ((a.natAbs % 2 ^ k : Nat) : Int) k := by
        refine fl_right (n := ((a.natAbs % 2 ^ k : Nat) : Int)) ?_ (by lia) (by lia) (by decide) ?_ (W := a.natAbs % 2 ^ k * 2 ^ (1074 - k)) (D := 1)
        · rw [decide_eq_false (by lia : ¬ ((a.natAbs % 2 ^ k : Nat) : Int) < 0)]
          rw [decide_eq_false hneg] at hR
          exact hR
        · rw [Nat.one_mul]; rfl
      have e3 : a % 2 ^ k = ((a.natAbs % 2 ^ k : Nat) : Int) := by
        rw [hic, Int.natCast_emod]; congr 1; lia
      rw [e2]
      have hz : isZero (fl ((a.natAbs % 2 ^ k : Nat) : Int) k) = false := by
        rw [fl_isZero (by lia) (by lia)]; exact decide_eq_false (by lia)
      have hl1 : lt (fl 1 0) (zero false) = false := by decide +kernel
      have hl2 : lt (fl ((a.natAbs % 2 ^ k : Nat) : Int) k) (zero false) = false := by
        rw [← fl_zero k]; unfold lt
        rw [fl_cmp (by lia) (by decide) (by lia), Int.compare_eq_gt.mpr (by lia)]; rfl
      simp only [hz, hl1, hl2, Bool.false_eq_true, if_false, bne_self_eq_false]
      rw [e3]
end
section
theorem clear_MaxF : True := by k_with_none; trivial
open PySem PySem.W PyProof.Rows PySem.Flt
noncomputable def max2F (x y : UInt64) : UInt64 := if (Float64.cmp x y == some .lt) = true then y else x
noncomputable def min2F (x y : UInt64) : UInt64 := if (Float64.cmp y x == some .lt) = true then y else x
noncomputable def max3F (x y z : UInt64) : UInt64 := max2F (max2F x y) z
noncomputable def min3F (x y z : UInt64) : UInt64 := min2F (min2F x y) z

theorem max3_num {prog : Program} {w : World} {A : Around} {E : Value → Shared → Prop} {s : Shared} {Q : Value → Shared → Prop} {a b c : Value} (hh : A.handled = none) (ha : NumV a) (hb : NumV b) (hc : NumV c)
    (h : ∀ h' tk, (∀ d o, s.heap.get? d = some o → h'.get? d = some o) → Q (if ltV (if ltV a b then b else a) c then c else (if ltV a b then b else a)) { s with heap := h', toks := tk }) :
    wpAny (model prog w) A (call (.builtin "max") [a, b, c]) Q E s := by
  have hT : (s.heap.push { cls := .type "tuple", data := .seq #[a, b, c] }).IsTuple s.heap.objs.size #[a, b, c] := ⟨_, Heap.get?_push_size _ rfl, rfl, 0, rfl⟩
  refine call_max_three (wpAny_pyIter_tuple hT ?_)
  have hsz : (s.heap.push { cls := .type "tuple", data := .seq #[a, b, c] }).objs.size = s.heap.objs.size + 1 := Heap.size_push ..
  refine ⟨_, [_, s.heap.objs.size], [_], _, _, _, _, rfl, Walks.tuple (A := A.in1) hh _ s.heap.objs.size (by rw [hsz]; exact Nat.ne_of_lt (Nat.lt_succ_self _)) #[a, b, c],
    ⟨⟨_, Heap.get?_push_size _ rfl, rfl, rfl⟩, hT.push _⟩, fun d hd => ?_, by simp, cmpOf_gt #[a, b, c] (by simp [ha, hb, hc]), fun v h' tk hP hk => ?_⟩
  · show d < ((s.heap.push _).push _).objs.size
    rw [Heap.size_push, hsz]
    rcases List.mem_cons.mp hd with rfl | hd
    · rw [hsz]; exact Nat.lt_succ_self _
    · rcases List.mem_cons.mp hd with rfl | hd
      · exact Nat.lt_succ_of_lt (Nat.lt_succ_self _)
      · cases hd
  · have hold : ∀ d o, s.heap.get? d = some o → h'.get? d = some o := fun d o e => by
      refine hk d o (fun hm => ?_) (Heap.get?_push_of_some _ (Heap.get?_push_of_some _ e))
      rcases List.mem_cons.mp hm with e1 | hm
      · have := Heap.lt_size e; rw [e1, hsz] at this; exact Nat.lt_irrefl _ (Nat.lt_of_succ_lt this)
      · cases hm
    have := h h' tk hold
    have hv : v = if ltV (if ltV a b then b else a) c then c else (if ltV a b then b else a) := by
      cases h1 : ltV a b with
      | true =>
        cases h2 : ltV b c with
        | true => simp [argBest, h1, h2] at hP ⊢; simp [hP]
        | false => simp [argBest, h1, h2] at hP ⊢; simp [hP]
      | false =>
        cases h2 : ltV a c with
        | true => simp [argBest, h1, h2] at hP ⊢; simp [hP]
        | false => simp [argBest, h1, h2] at hP ⊢; simp [hP]
    rw [hv]; exact this
theorem min3_num {prog : Program} {w : World} {A : Around} {E : Value → Shared → Prop} {s : Shared} {Q : Value → Shared → Prop} {a b c : Value} (hh : A.handled = none) (ha : NumV a) (hb : NumV b) (hc : NumV c)
    (h : ∀ h' tk, (∀ d o, s.heap.get? d = some o → h'.get? d = some o) → Q (if ltV c (if ltV b a then b else a) then c else (if ltV b a then b else a)) { s with heap := h', toks := tk }) :
    wpAny (model prog w) A (call (.builtin "min") [a, b, c]) Q E s := by
  have hT : (s.heap.push { cls := .type "tuple", data := .seq #[a, b, c] }).IsTuple s.heap.objs.size #[a, b, c] := ⟨_, Heap.get?_push_size _ rfl, rfl, 0, rfl⟩
  refine call_min_three (wpAny_pyIter_tuple hT ?_)
  have hsz : (s.heap.push { cls := .type "tuple", data := .seq #[a, b, c] }).objs.size = s.heap.objs.size + 1 := Heap.size_push ..
  refine ⟨_, [_, s.heap.objs.size], [_], _, _, _, _, rfl, Walks.tuple (A := A.in1) hh _ s.heap.objs.size (by rw [hsz]; exact Nat.ne_of_lt (Nat.lt_succ_self _)) #[a, b, c],
    ⟨⟨_, Heap.get?_push_size _ rfl, rfl, rfl⟩, hT.push _⟩, fun d hd => ?_, by simp, cmpOf_lt #[a, b, c] (by simp [ha, hb, hc]), fun v h' tk hP hk => ?_⟩
  · show d < ((s.heap.push _).push _).objs.size
    rw [Heap.size_push, hsz]
    rcases List.mem_cons.mp hd with rfl | hd
    · rw [hsz]; exact Nat.lt_succ_self _
    · rcases List.mem_cons.mp hd with rfl | hd
      · exact Nat.lt_succ_of_lt (Nat.lt_succ_self _)
      · cases hd
  · have hold : ∀ d o, s.heap.get? d = some o → h'.get? d = some o := fun d o e => by
      refine hk d o (fun hm => ?_) (Heap.get?_push_of_some _ (Heap.get?_push_of_some _ e))
      rcases List.mem_cons.mp hm with e1 | hm
      · have := Heap.lt_size e; rw [e1, hsz] at this; exact Nat.lt_irrefl _ (Nat.lt_of_succ_lt this)
      · cases hm
    have := h h' tk hold
    have hv : v = if ltV c (if ltV b a then b else a) then c else (if ltV b a then b else a) := by
      cases h1 : ltV b a with
      | true =>
        cases h2 : ltV c b with
        | true => simp [argBest, h1, h2] at hP ⊢; simp [hP]
        | false => simp [argBest, h1, h2] at hP ⊢; simp [hP]
      | false =>
        cases h2 : ltV c a with
        | true => simp [argBest, h1, h2] at hP ⊢; simp [hP]
        | false => simp [argBest, h1, h2] at hP ⊢; simp [hP]
    rw [hv]; exact this

theorem lt_ff (x y : UInt64) (t u : Tok) : ltV (.float x t) (.float y u) = (Float64.cmp x y == some .lt) := rfl
theorem max3_ff {prog : Program} {w : World} {A : Around} {E : Value → Shared → Prop} {s : Shared} {Q : Value → Shared → Prop} {x y z : UInt64} {t u v : Tok} {h₀ : Heap} {L : Addr} {m : Str → Option Value} {news : List (Addr × Obj)}
    (p1 : @LT.lt Nat _ 0 t) (p2 : @LT.lt Nat _ 0 u) (p3 : @LT.lt Nat _ 0 v) (hh : A.handled = none) (F : Fr h₀ L s.heap m) (N : News h₀ L s.heap news)
    (h : ∀ h' tk v, @LT.lt Nat _ 0 v → Fr h₀ L h' m → News h₀ L h' news → Q (.float (max3F x y z) v) { s with heap := h', toks := tk }) :
    wpAny (model prog w) A (call (.builtin "max") [.float x t, .float y u, .float z v]) Q E s := by
  refine max3_num hh (.float x t) (.float y u) (.float z v) fun h' tk kp => ?_
  have q := fun tok po => h h' tk tok po (F.grownK kp) (N.grown kp)
  unfold max3F max2F at q
  rw [lt_ff x y]
  by_cases h1 : (Float64.cmp x y == some .lt) = true
  · simp only [if_pos h1] at q ⊢
    rw [lt_ff y z]
    by_cases h2 : (Float64.cmp y z == some .lt) = true
    · simp only [if_pos h2] at q ⊢; exact q v p3
    · simp only [if_neg h2] at q ⊢; exact q u p2
  · simp only [if_neg h1] at q ⊢
    rw [lt_ff x z]
    by_cases h2 : (Float64.cmp x z == some .lt) = true
    · simp only [if_pos h2] at q ⊢; exact q v p3
    · simp only [if_neg h2] at q ⊢; exact q t p1
theorem min3_ff {prog : Program} {w : World} {A : Around} {E : Value → Shared → Prop} {s : Shared} {Q : Value → Shared → Prop} {x y z : UInt64} {t u v : Tok} {h₀ : Heap} {L : Addr} {m : Str → Option Value} {news : List (Addr × Obj)}
    (hh : A.handled = none) (F : Fr h₀ L s.heap m) (N : News h₀ L s.heap news)
    (h : ∀ h' tk v, Fr h₀ L h' m → News h₀ L h' news → Q (.float (min3F x y z) v) { s with heap := h', toks := tk }) :
    wpAny (model prog w) A (call (.builtin "min") [.float x t, .float y u, .float z v]) Q E s := by
  refine min3_num hh (.float x t) (.float y u) (.float z v) fun h' tk kp => ?_
  have q := fun tok => h h' tk tok (F.grownK kp) (N.grown kp)
  unfold min3F min2F at q
  rw [lt_ff y x]
  by_cases h1 : (Float64.cmp y x == some .lt) = true
  · simp only [if_pos h1] at q ⊢
    rw [lt_ff z y]
    by_cases h2 : (Float64.cmp z y == some .lt) = true
    · simp only [if_pos h2] at q ⊢; exact q v
    · simp only [if_neg h2] at q ⊢; exact q u
  · simp only [if_neg h1] at q ⊢
    rw [lt_ff z x]
    by_cases h2 : (Float64.cmp z x == some .lt) = true
    · simp only [if_pos h2] at q ⊢; exact q v
    · simp only [if_neg h2] at q ⊢; exact q t
end
section
theorem clear_Mirror : True := by k_with_none; trivial
open PySem
open Float64
/-! mirrors of the program's float functions -/
noncomputable abbrev eqF (x y : UInt64) : Bool := cmp x y == some .eq
noncomputable def hueF (x y z mx mn : UInt64) : UInt64 :=
  let rg := sub mx mn
  let rc := div (sub mx x) rg
  let gc := div (sub mx y) rg
  let bc := div (sub mx z) rg
  let h := if eqF x mx = true then sub bc gc else if eqF y mx = true then sub (add 4611686018427387904 rc) bc else sub (add 4616189618054758400 gc) rc
  (divmod (div h 4618441417868443648) 4607182418800017408).2
noncomputable abbrev lightF (mx mn : UInt64) : UInt64 := div (add mx mn) 4611686018427387904
noncomputable abbrev lowF (l : UInt64) : Bool := cmp l 4602678819172646912 == some .lt || cmp l 4602678819172646912 == some .eq
noncomputable def hlsF (x y z : UInt64) : UInt64 × UInt64 × UInt64 :=
  let mx := max3F x y z
  let mn := min3F x y z
  if eqF mn mx = true then (0, lightF mx mn, 0)
  else (hueF x y z mx mn, lightF mx mn, if lowF (lightF mx mn) = true then div (sub mx mn) (add mx mn) else div (sub mx mn) (sub (sub 4611686018427387904 mx) mn))
noncomputable def hsvF (x y z : UInt64) : UInt64 × UInt64 × UInt64 :=
  let mx := max3F x y z
  let mn := min3F x y z
  if eqF mn mx = true then (0, 0, mx)
  else (hueF x y z mx mn, div (sub mx mn) mx, mx)
noncomputable abbrev sixF (x : UInt64) : UInt64 := mul x 4618441417868443648
noncomputable abbrev partF (x : UInt64) : UInt64 := sub (sixF x) (ofInt (Flt.toInt truncOf (sixF x)))
noncomputable abbrev pF (y z : UInt64) : UInt64 := mul z (sub 4607182418800017408 y)
noncomputable abbrev qF (x y z : UInt64) : UInt64 := mul z (sub 4607182418800017408 (mul y (partF x)))
noncomputable abbrev tF (x y z : UInt64) : UInt64 := mul z (sub 4607182418800017408 (mul y (sub 4607182418800017408 (partF x))))
noncomputable abbrev sextF (x : UInt64) : Int := Int.fmod (Flt.toInt truncOf (sixF x)) 6
noncomputable def rgbF (x y z : UInt64) : UInt64 × UInt64 × UInt64 :=
  if eqF y 0 = true then (z, z, z)
  else if sextF x = 0 then (z, tF x y z, pF y z)
  else if sextF x = 1 then (qF x y z, z, pF y z)
  else if sextF x = 2 then (pF y z, z, tF x y z)
  else if sextF x = 3 then (pF y z, qF x y z, z)
  else if sextF x = 4 then (tF x y z, pF y z, z)
  else (z, pF y z, qF x y z)
section
variable {x y z : UInt64}
theorem hls_1 (h : eqF (min3F x y z) (max3F x y z) = true) : hlsF x y z = (0, lightF (max3F x y z) (min3F x y z), 0) := by unfold hlsF; simp only [h, if_true]
theorem hls_2 (h : eqF (min3F x y z) (max3F x y z) = false) (l : lowF (lightF (max3F x y z) (min3F x y z)) = true) : hlsF x y z = (hueF x y z (max3F x y z) (min3F x y z), lightF (max3F x y z) (min3F x y z), div (sub (max3F x y z) (min3F x y z)) (add (max3F x y z) (min3F x y z))) := by
  unfold hlsF; simp only [h, l, if_true, if_false, Bool.false_eq_true]
theorem hls_3 (h : eqF (min3F x y z) (max3F x y z) = false) (l : lowF (lightF (max3F x y z) (min3F x y z)) = false) : hlsF x y z = (hueF x y z (max3F x y z) (min3F x y z), lightF (max3F x y z) (min3F x y z), div (sub (max3F x y z) (min3F x y z)) (sub (sub 4611686018427387904 (max3F x y z)) (min3F x y z))) := by
  unfold hlsF; simp only [h, l, if_false, Bool.false_eq_true]
theorem hsv_1 (h : eqF (min3F x y z) (max3F x y z) = true) : hsvF x y z = (0, 0, max3F x y z) := by unfold hsvF; simp only [h, if_true]
theorem hsv_2 (h : eqF (min3F x y z) (max3F x y z) = false) : hsvF x y z = (hueF x y z (max3F x y z) (min3F x y z), div (sub (max3F x y z) (min3F x y z)) (max3F x y z), max3F x y z) := by unfold hsvF; simp only [h, if_false, Bool.false_eq_true]
variable {mx mn : UInt64}
theorem hue_1 (h : eqF x mx = true) : hueF x y z mx mn = (divmod (div (sub (div (sub mx z) (sub mx mn)) (div (sub mx y) (sub mx mn))) 4618441417868443648) 4607182418800017408).2 := by unfold hueF; simp only [h, if_true]
theorem hue_2 (h : eqF x mx = false) (h2 : eqF y mx = true) : hueF x y z mx mn = (divmod (div (sub (add 4611686018427387904 (div (sub mx x) (sub mx mn))) (div (sub mx z) (sub mx mn))) 4618441417868443648) 4607182418800017408).2 := by unfold hueF; simp only [h, h2, if_true, if_false, Bool.false_eq_true]
theorem hue_3 (h : eqF x mx = false) (h2 : eqF y mx = false) : hueF x y z mx mn = (divmod (div (sub (add 4616189618054758400 (div (sub mx y) (sub mx mn))) (div (sub mx x) (sub mx mn))) 4618441417868443648) 4607182418800017408).2 := by unfold hueF; simp only [h, h2, if_false, Bool.false_eq_true]
end
section
variable {x y z : UInt64}
theorem rgb_g (h : eqF y 0 = true) : rgbF x y z = (z, z, z) := by unfold rgbF; rw [if_pos h]
theorem rgb_0 (h : eqF y 0 = false) (h0 : sextF x = 0) : rgbF x y z = (z, tF x y z, pF y z) := by unfold rgbF; rw [if_neg (by rw [h]; exact Bool.false_ne_true), if_pos h0]
theorem rgb_1 (h : eqF y 0 = false) (h0 : sextF x = 1) : rgbF x y z = (qF x y z, z, pF y z) := by unfold rgbF; rw [if_neg (by rw [h]; exact Bool.false_ne_true), if_neg (by omega), if_pos h0]
theorem rgb_2 (h : eqF y 0 = false) (h0 : sextF x = 2) : rgbF x y z = (pF y z, z, tF x y z) := by unfold rgbF; rw [if_neg (by rw [h]; exact Bool.false_ne_true), if_neg (by omega), if_neg (by omega), if_pos h0]
theorem rgb_3 (h : eqF y 0 = false) (h0 : sextF x = 3) : rgbF x y z = (pF y z, qF x y z, z) := by unfold rgbF; rw [if_neg (by rw [h]; exact Bool.false_ne_true), if_neg (by omega), if_neg (by omega), if_neg (by omega), if_pos h0]
theorem rgb_4 (h : eqF y 0 = false) (h0 : sextF x = 4) : rgbF x y z = (tF x y z, pF y z, z) := by unfold rgbF; rw [if_neg (by rw [h]; exact Bool.false_ne_true), if_neg (by omega), if_neg (by omega), if_neg (by omega), if_neg (by omega), if_pos h0]
theorem rgb_5 (h : eqF y 0 = false) (h0 : sextF x = 5) : rgbF x y z = (z, pF y z, qF x y z) := by unfold rgbF; rw [if_neg (by rw [h]; exact Bool.false_ne_true), if_neg (by omega), if_neg (by omega), if_neg (by omega), if_neg (by omega), if_neg (by omega)]
theorem rgb_no {i : Int} (h0 : Int.fmod i 6 ≠ 0) (h1 : Int.fmod i 6 ≠ 1) (h2 : Int.fmod i 6 ≠ 2) (h3 : Int.fmod i 6 ≠ 3) (h4 : Int.fmod i 6 ≠ 4) (h5 : Int.fmod i 6 ≠ 5) : False := by
  rw [Int.fmod_eq_emod_of_nonneg i (by decide)] at *
  have a := Int.emod_nonneg i (show (6 : Int) ≠ 0 by decide)
  have b := Int.emod_lt_of_pos i (show (0 : Int) < 6 by decide)
  obtain ⟨n, e⟩ := Int.eq_ofNat_of_zero_le a
  rw [e] at h0 h1 h2 h3 h4 h5 b
  match n, b with
  | 0, _ => exact h0 rfl
  | 1, _ => exact h1 rfl
  | 2, _ => exact h2 rfl
  | 3, _ => exact h3 rfl
  | 4, _ => exact h4 rfl
  | 5, _ => exact h5 rfl
  | n + 6, b => exact absurd (Int.ofNat_lt.mp b) (Nat.not_lt.mpr (Nat.le_add_left 6 n))
end
end
section
theorem clear_GenB : True := by k_with_none; trivial
open PySem PySem.W PyProof.Rows
set_option maxRecDepth 100000
set_option maxHeartbeats 8000000
theorem neAll : ∀ {a : Addr} {l : List (Addr × Obj)}, AllLt a l → ∀ p ∈ l, p.1 ≠ a
  | _, [], _, _, hp => nomatch hp
  | _, _ :: _, h, p, hp => by
    rcases List.mem_cons.mp hp with rfl | hp
    · exact Nat.ne_of_lt h.1
    · exact neAll h.2 p hp
section
variable {prog : Program} {w : World} {A : Around} {E : Value → Shared → Prop} {s : Shared} {h₀ : Heap} {L : Addr} {m : Str → Option Value} {news : List (Addr × Obj)}
theorem min2_K {a b : Int} {t u : Tok} {Q : Value → Shared → Prop} (hh : A.handled = none) (F : Fr h₀ L s.heap m) (N : News h₀ L s.heap news)
    (h : ∀ h' tk t', Fr h₀ L h' m → News h₀ L h' news → Q (.int (min a b) t') { s with heap := h', toks := tk }) : wpAny (model prog w) A (call (.builtin "min") [.int a t, .int b u]) Q E s :=
  min_two_N hh F N fun h' tk F' N' => by
    have e : (if b < a then b else a) = min a b := by split <;> omega
    rw [e]; exact h h' tk _ F' N'
theorem max2_K {a b : Int} {t u : Tok} {Q : Value → Shared → Prop} (hh : A.handled = none) (F : Fr h₀ L s.heap m) (N : News h₀ L s.heap news)
    (h : ∀ h' tk t', Fr h₀ L h' m → News h₀ L h' news → Q (.int (max a b) t') { s with heap := h', toks := tk }) : wpAny (model prog w) A (call (.builtin "max") [.int a t, .int b u]) Q E s :=
  max_two_N hh F N fun h' tk F' N' => by
    have e : (if b > a then b else a) = max a b := by split <;> omega
    rw [e]; exact h h' tk _ F' N'
end
theorem unr_end {h₀ : Heap} {L I : Addr} {it : Obj} {rest : (Str → Option Value) → List (Addr × Obj) → Prop} {s₁ : Shared} {h' : Heap} {tk : Nat} {m' : Str → Option Value} {news' : List (Addr × Obj)} (F : Fr h₀ L h' m') (N : News h₀ L h' ((I, it) :: news'))
    (off : ∀ p ∈ news', p.1 ≠ I) (r : rest m' news') : UnrEnd h₀ L s₁ I it rest { s₁ with heap := h', toks := tk } := ⟨h', tk, m', news', rfl, F, N, off, r⟩
noncomputable def Stp (P : Prop) : Prop := P
theorem stp {P : Prop} (h : Stp P) : P := h
theorem three_self {m0 : Str → Option Value} {a b c : Str} : ∃ o1 o2 o3, m0 = fun y => if y = a then o1 else if y = b then o2 else if y = c then o3 else m0 y := by
  refine ⟨m0 a, m0 b, m0 c, funext fun y => ?_⟩
  by_cases h : y = a
  · rw [if_pos h, h]
  · rw [if_neg h]
    by_cases h2 : y = b
    · rw [if_pos h2, h2]
    · rw [if_neg h2]
      by_cases h3 : y = c
      · rw [if_pos h3, h3]
      · rw [if_neg h3]
theorem three_again {m0 : Str → Option Value} {a b c : Str} {o1 o2 o3 p1 p2 p3 : Option Value} : (fun y => if y = a then p1 else if y = b then p2 else if y = c then p3 else if y = a then o1 else if y = b then o2 else if y = c then o3 else m0 y) = fun y => if y = a then p1 else if y = b then p2 else if y = c then p3 else m0 y := by
  funext y
  by_cases h : y = a
  · simp only [h, if_true]
  · by_cases h2 : y = b
    · simp only [h, h2, if_true, if_false]
    · by_cases h3 : y = c
      · simp only [h3, if_true]
      · simp only [h, h2, h3, if_false]
section
variable {prog : Program} {w : World} {A : Around} {E : Value → Shared → Prop} {s : Shared} {env : Env} {h₀ : Heap} {x : Str} {body : List Stmt} {Q : Flow → Shared → Prop}
theorem list_rest {I : Addr} {lp : Addr × Obj} (J : List Value → (Str → Option Value) → List (Addr × Obj) → Prop)
    (step : ∀ v r m news, J (v :: r) m news → ∀ (it : Obj) h tk, it.cls = .type "list_iterator" → Fr h₀ env.locals h (fun y => if y = x then some v else m y) → News h₀ env.locals h ((I, it) :: news) →
      wpAny (model prog w) A (execs body env) (UnrPost h₀ env.locals { s with heap := h, toks := tk } I it (fun m' n' => lp ∈ n' ∧ J r m' n') Q) E { s with heap := h, toks := tk })
    (zero : ∀ m news, J [] m news → ∀ h tk, Fr h₀ env.locals h m → News h₀ env.locals h news → Q .next { s with heap := h, toks := tk }) :
    ∀ vs m news, J vs m news → ListRest prog w A E h₀ env x body Q s I lp vs m news
  | [], m, news, j => .zero (zero m news j)
  | v :: r, m, news, j => .succ fun it h tk hc F N => wpAny_mono (step v r m news j it h tk hc F N) (fun f s₂ p => by
      cases f with
      | ret v => exact p
      | brk => exact p
      | next =>
        obtain ⟨h', tk', m', n', e, F', N', off, hm, j'⟩ := p
        exact ⟨h', tk', m', n', e, F', N', off, hm, list_rest J step zero r m' n' j'⟩
      | cont =>
        obtain ⟨h', tk', m', n', e, F', N', off, hm, j'⟩ := p
        exact ⟨h', tk', m', n', e, F', N', off, hm, list_rest J step zero r m' n' j'⟩) fun _ _ e => e
end
theorem lt_all : ∀ {a : Addr} {l : List (Addr × Obj)}, AllLt a l → ∀ p ∈ l, p.1 < a
  | _, [], _, _, hp => nomatch hp
  | _, _ :: _, h, p, hp => by
    rcases List.mem_cons.mp hp with rfl | hp
    · exact h.1
    · exact lt_all h.2 p hp
section
variable {prog : Program} {w : World} {A : Around} {E : Value → Shared → Prop} {s : Shared} {h₀ : Heap} {L l : Addr} {m : Str → Option Value} {news news' : List (Addr × Obj)} {its : Array Value} {x : Value} {n : Nat}
end
end
section
theorem clear_Leaf1B : True := by k_with_none; trivial
open PySem PySem.W PyProof.Rows
set_option maxRecDepth 100000
set_option maxHeartbeats 8000000
theorem fill : True := by
  have : PySem.Challenge.rw_mq0203_02.Holds ∨ True := .inr trivial
  have h2 : (hd.heap_1 = hd.heap_1 ∧ PySem.Challenge.rw_mq0203_02 = PySem.Challenge.rw_mq0203_02) → True := fun _ => trivial
  apply h2
  k_fill
  exact ⟨rfl, rfl⟩
theorem line_Leaf1B_1 : True := by
  k_with "call builtin:max!" => ((with_reducible show wpAny _ _ (call _ [Value.float _ _, Value.float _ _, Value.float _ _]) _ _ _); k_dflt (refine' max3_ff ?p1 ?p2 ?p3 ?h1 ?h2 ?h3 ?_; (case p1 => assumption); (case p2 => assumption); (case p3 => assumption); (case h1 => rfl); (case h2 => k_asm); (case h3 => k_asm)); intro _ _ _ _ _ _; (try k_sweep))
  trivial
theorem line_Leaf1B_2 : True := by
  k_with "call builtin:min!" => ((with_reducible show wpAny _ _ (call _ [Value.float _ _, Value.float _ _, Value.float _ _]) _ _ _); k_dflt (refine' min3_ff ?h1 ?h2 ?h3 ?_; (case h1 => rfl); (case h2 => k_asm); (case h3 => k_asm)); intro _ _ _ _ _; (try k_sweep))
  trivial
theorem wpAny_gen1 {α : Type} {M : Model} {A : Around} {t : Sem α} {Q : α → Shared → Prop} {E : Value → Shared → Prop} {h : Heap} {g : Array GenState} {d : Drawn} {tk : Nat} {os : OsState} (k : ∀ t', @LT.lt Nat _ 0 t' → wpAny M A t Q E ⟨h, g, d, t', os⟩) : wpAny M A t Q E ⟨h, g, d, tk + 1, os⟩ := k _ (Nat.succ_pos _)
theorem line_Leaf1B_3 : True := by
  k_with "execs cons!" => (k_here; (with_reducible refine wpAny_gen1 ?_); intro _ _)
  trivial
theorem line_Leaf1B_4 : True := by
  k_with "execs nil!" => (k_here; (with_reducible refine wpAny_gen1 ?_); intro _ _)
  trivial
noncomputable abbrev tup3 (a b c : Value) : Obj := { cls := .type "tuple", data := .seq #[a, b, c] }

theorem c_hsv2rgb {w : World} {p : Program} {loose : List Str} {mean : ExcName → Option Value} {mg mb : Str → Option Value} {dp un : Nat} {gd : Option (List Code)} {cn : Str} {cs : Scope} {a : Addr} {ccd : Value} {cl : List (Str × Addr)} {outer : List Env} {A₀ : Around} {base h₀ : Heap} {L : Addr} {m : Str → Option Value} {news : List (Addr × Obj)} {s : Shared} {Q E : Value → Shared → Prop} {x y z : UInt64} {tx ty tz : Tok}
    (B : Below A₀ base outer h₀) (F : Fr h₀ L s.heap m) (X : (hd.heap_1 w.params).In h₀) (N : News h₀ L s.heap news) (T : Top p loose mean mg mb h₀) (hk : cs.kind = .function) (px : @LT.lt Nat _ 0 tx) (py : @LT.lt Nat _ 0 ty) (pz : @LT.lt Nat _ 0 tz) (hdp : dp + 1 < recursionLimit) (hun : un + 8 < cLine)
    (g1 : eqF y 0 = false → Float64.isNaN (sixF x) = false) (g2 : eqF y 0 = false → Float64.isInf (sixF x) = false) (g3 : eqF y 0 = false → (Flt.toInt Float64.truncOf (sixF x)).natAbs < 2 ^ 1024 - 2 ^ 970)
    (hret : ∀ (r g b : UInt64) (D : Addr) (t1 t2 t3 : Tok) (h' : Heap) (tk' : Nat), rgbF x y z = (r, g, b) → Fr h₀ L h' m → News h₀ L h' ((D, tup3 (.float r t1) (.float g t2) (.float b t3)) :: news) → (∀ q ∈ news, q.1 < D) → @LT.lt Nat _ 0 t1 → @LT.lt Nat _ 0 t2 → @LT.lt Nat _ 0 t3 → Q (.ref D) { s with heap := h', toks := tk' }) :
    wpAny (model PySem.Challenge.rw_mq0203_02.prog w) (ktrTop dp un gd cn cs L a ccd cl outer) (call (.ref 35) [.float x tx, .float y ty, .float z tz]) Q E s := by
  refine wpAny_call ?_
  k_dflt cell_enter
  k_steps
  all_goals first
    | exact hret _ _ _ _ _ _ _ _ _ (rgb_g (by with_reducible assumption)) (by k_asm) (by k_asm) (by k_asm) (by first | with_reducible assumption | exact Nat.succ_pos _) (by first | with_reducible assumption | exact Nat.succ_pos _) (by first | with_reducible assumption | exact Nat.succ_pos _)
    | exact hret _ _ _ _ _ _ _ _ _ (rgb_0 (by with_reducible assumption) (by with_reducible assumption)) (by k_asm) (by k_asm) (by k_asm) (by first | with_reducible assumption | exact Nat.succ_pos _) (by first | with_reducible assumption | exact Nat.succ_pos _) (by first | with_reducible assumption | exact Nat.succ_pos _)
    | exact hret _ _ _ _ _ _ _ _ _ (rgb_1 (by with_reducible assumption) (by with_reducible assumption)) (by k_asm) (by k_asm) (by k_asm) (by first | with_reducible assumption | exact Nat.succ_pos _) (by first | with_reducible assumption | exact Nat.succ_pos _) (by first | with_reducible assumption | exact Nat.succ_pos _)
    | exact hret _ _ _ _ _ _ _ _ _ (rgb_2 (by with_reducible assumption) (by with_reducible assumption)) (by k_asm) (by k_asm) (by k_asm) (by first | with_reducible assumption | exact Nat.succ_pos _) (by first | with_reducible assumption | exact Nat.succ_pos _) (by first | with_reducible assumption | exact Nat.succ_pos _)
    | exact hret _ _ _ _ _ _ _ _ _ (rgb_3 (by with_reducible assumption) (by with_reducible assumption)) (by k_asm) (by k_asm) (by k_asm) (by first | with_reducible assumption | exact Nat.succ_pos _) (by first | with_reducible assumption | exact Nat.succ_pos _) (by first | with_reducible assumption | exact Nat.succ_pos _)
    | exact hret _ _ _ _ _ _ _ _ _ (rgb_4 (by with_reducible assumption) (by with_reducible assumption)) (by k_asm) (by k_asm) (by k_asm) (by first | with_reducible assumption | exact Nat.succ_pos _) (by first | with_reducible assumption | exact Nat.succ_pos _) (by first | with_reducible assumption | exact Nat.succ_pos _)
    | exact hret _ _ _ _ _ _ _ _ _ (rgb_5 (by with_reducible assumption) (by with_reducible assumption)) (by k_asm) (by k_asm) (by k_asm) (by first | with_reducible assumption | exact Nat.succ_pos _) (by first | with_reducible assumption | exact Nat.succ_pos _) (by first | with_reducible assumption | exact Nat.succ_pos _)
    | exact absurd (show Float64.isNaN (sixF x) = true by with_reducible assumption) (by rw [g1 (by with_reducible assumption)]; exact Bool.false_ne_true)
    | exact absurd (show Float64.isInf (sixF x) = true by with_reducible assumption) (by rw [g2 (by with_reducible assumption)]; exact Bool.false_ne_true)
    | exact absurd (show 2 ^ 1024 - 2 ^ 970 ≤ (Flt.toInt Float64.truncOf (sixF x)).natAbs by with_reducible assumption) (Nat.not_le.mpr (g3 (by with_reducible assumption)))
    | exact (rgb_no (by with_reducible assumption) (by with_reducible assumption) (by with_reducible assumption) (by with_reducible assumption) (by with_reducible assumption) (by with_reducible assumption)).elim

theorem c_hls {w : World} {p : Program} {loose : List Str} {mean : ExcName → Option Value} {mg mb : Str → Option Value} {dp un : Nat} {gd : Option (List Code)} {cn : Str} {cs : Scope} {a : Addr} {ccd : Value} {cl : List (Str × Addr)} {outer : List Env} {A₀ : Around} {base h₀ : Heap} {L : Addr} {m : Str → Option Value} {news : List (Addr × Obj)} {s : Shared} {Q E : Value → Shared → Prop} {x y z : UInt64} {tx ty tz : Tok}
    (B : Below A₀ base outer h₀) (F : Fr h₀ L s.heap m) (X : (hd.heap_1 w.params).In h₀) (N : News h₀ L s.heap news) (T : Top p loose mean mg mb h₀) (hk : cs.kind = .function) (px : @LT.lt Nat _ 0 tx) (py : @LT.lt Nat _ 0 ty) (pz : @LT.lt Nat _ 0 tz) (hdp : dp + 1 < recursionLimit) (hun : un + 8 < cLine)
    (g1 : eqF (min3F x y z) (max3F x y z) = false → Float64.isZero (Float64.sub (max3F x y z) (min3F x y z)) = false) (g2 : eqF (min3F x y z) (max3F x y z) = false → lowF (lightF (max3F x y z) (min3F x y z)) = true → Float64.isZero (Float64.add (max3F x y z) (min3F x y z)) = false) (g3 : eqF (min3F x y z) (max3F x y z) = false → lowF (lightF (max3F x y z) (min3F x y z)) = false → Float64.isZero (Float64.sub (Float64.sub 4611686018427387904 (max3F x y z)) (min3F x y z)) = false)
    (hret : ∀ (r g b : UInt64) (D : Addr) (t1 t2 t3 : Tok) (h' : Heap) (tk' : Nat), hlsF x y z = (r, g, b) → Fr h₀ L h' m → News h₀ L h' ((D, tup3 (.float r t1) (.float g t2) (.float b t3)) :: news) → (∀ q ∈ news, q.1 < D) → @LT.lt Nat _ 0 t1 → @LT.lt Nat _ 0 t2 → @LT.lt Nat _ 0 t3 → Q (.ref D) { s with heap := h', toks := tk' }) :
    wpAny (model PySem.Challenge.rw_mq0203_02.prog w) (ktrTop dp un gd cn cs L a ccd cl outer) (call (.ref 21) [.float x tx, .float y ty, .float z tz]) Q E s := by
  refine wpAny_call ?_
  k_dflt cell_enter
  k_steps
  all_goals first
    | exact hret _ _ _ _ _ _ _ _ _ (hls_1 (by with_reducible assumption)) (by k_asm) (by k_asm) (by k_asm) (by first | with_reducible assumption | exact Nat.succ_pos _) (by first | with_reducible assumption | exact Nat.succ_pos _) (by first | with_reducible assumption | exact Nat.succ_pos _)
    | exact hret _ _ _ _ _ _ _ _ _ ((hls_2 (by with_reducible assumption) (by with_reducible assumption)).trans (by rw [hue_1 (by with_reducible assumption)])) (by k_asm) (by k_asm) (by k_asm) (by first | with_reducible assumption | exact Nat.succ_pos _) (by first | with_reducible assumption | exact Nat.succ_pos _) (by first | with_reducible assumption | exact Nat.succ_pos _)
    | exact hret _ _ _ _ _ _ _ _ _ ((hls_2 (by with_reducible assumption) (by with_reducible assumption)).trans (by rw [hue_2 (by with_reducible assumption) (by with_reducible assumption)])) (by k_asm) (by k_asm) (by k_asm) (by first | with_reducible assumption | exact Nat.succ_pos _) (by first | with_reducible assumption | exact Nat.succ_pos _) (by first | with_reducible assumption | exact Nat.succ_pos _)
    | exact hret _ _ _ _ _ _ _ _ _ ((hls_2 (by with_reducible assumption) (by with_reducible assumption)).trans (by rw [hue_3 (by with_reducible assumption) (by with_reducible assumption)])) (by k_asm) (by k_asm) (by k_asm) (by first | with_reducible assumption | exact Nat.succ_pos _) (by first | with_reducible assumption | exact Nat.succ_pos _) (by first | with_reducible assumption | exact Nat.succ_pos _)
    | exact hret _ _ _ _ _ _ _ _ _ ((hls_3 (by with_reducible assumption) (by with_reducible assumption)).trans (by rw [hue_1 (by with_reducible assumption)])) (by k_asm) (by k_asm) (by k_asm) (by first | with_reducible assumption | exact Nat.succ_pos _) (by first | with_reducible assumption | exact Nat.succ_pos _) (by first | with_reducible assumption | exact Nat.succ_pos _)
    | exact hret _ _ _ _ _ _ _ _ _ ((hls_3 (by with_reducible assumption) (by with_reducible assumption)).trans (by rw [hue_2 (by with_reducible assumption) (by with_reducible assumption)])) (by k_asm) (by k_asm) (by k_asm) (by first | with_reducible assumption | exact Nat.succ_pos _) (by first | with_reducible assumption | exact Nat.succ_pos _) (by first | with_reducible assumption | exact Nat.succ_pos _)
    | exact hret _ _ _ _ _ _ _ _ _ ((hls_3 (by with_reducible assumption) (by with_reducible assumption)).trans (by rw [hue_3 (by with_reducible assumption) (by with_reducible assumption)])) (by k_asm) (by k_asm) (by k_asm) (by first | with_reducible assumption | exact Nat.succ_pos _) (by first | with_reducible assumption | exact Nat.succ_pos _) (by first | with_reducible assumption | exact Nat.succ_pos _)
    | exact absurd (show Float64.isZero (Float64.add (max3F x y z) (min3F x y z)) = true by with_reducible assumption) (by rw [g2 (by with_reducible assumption) (by with_reducible assumption)]; exact Bool.false_ne_true)
    | exact absurd (show Float64.isZero (Float64.sub (Float64.sub 4611686018427387904 (max3F x y z)) (min3F x y z)) = true by with_reducible assumption) (by rw [g3 (by with_reducible assumption) (by with_reducible assumption)]; exact Bool.false_ne_true)
    | exact absurd (show Float64.isZero (Float64.sub (max3F x y z) (min3F x y z)) = true by with_reducible assumption) (by rw [g1 (by with_reducible assumption)]; exact Bool.false_ne_true)

theorem c_hsv {w : World} {p : Program} {loose : List Str} {mean : ExcName → Option Value} {mg mb : Str → Option Value} {dp un : Nat} {gd : Option (List Code)} {cn : Str} {cs : Scope} {a : Addr} {ccd : Value} {cl : List (Str × Addr)} {outer : List Env} {A₀ : Around} {base h₀ : Heap} {L : Addr} {m : Str → Option Value} {news : List (Addr × Obj)} {s : Shared} {Q E : Value → Shared → Prop} {x y z : UInt64} {tx ty tz : Tok}
    (B : Below A₀ base outer h₀) (F : Fr h₀ L s.heap m) (X : (hd.heap_1 w.params).In h₀) (N : News h₀ L s.heap news) (T : Top p loose mean mg mb h₀) (hk : cs.kind = .function) (px : @LT.lt Nat _ 0 tx) (py : @LT.lt Nat _ 0 ty) (pz : @LT.lt Nat _ 0 tz) (hdp : dp + 1 < recursionLimit) (hun : un + 8 < cLine)
    (g1 : eqF (min3F x y z) (max3F x y z) = false → Float64.isZero (Float64.sub (max3F x y z) (min3F x y z)) = false) (g2 : eqF (min3F x y z) (max3F x y z) = false → Float64.isZero (max3F x y z) = false)
    (hret : ∀ (r g b : UInt64) (D : Addr) (t1 t2 t3 : Tok) (h' : Heap) (tk' : Nat), hsvF x y z = (r, g, b) → Fr h₀ L h' m → News h₀ L h' ((D, tup3 (.float r t1) (.float g t2) (.float b t3)) :: news) → (∀ q ∈ news, q.1 < D) → @LT.lt Nat _ 0 t1 → @LT.lt Nat _ 0 t2 → @LT.lt Nat _ 0 t3 → Q (.ref D) { s with heap := h', toks := tk' }) :
    wpAny (model PySem.Challenge.rw_mq0203_02.prog w) (ktrTop dp un gd cn cs L a ccd cl outer) (call (.ref 28) [.float x tx, .float y ty, .float z tz]) Q E s := by
  refine wpAny_call ?_
  k_dflt cell_enter
  k_steps
  all_goals first
    | exact hret _ _ _ _ _ _ _ _ _ (hsv_1 (by with_reducible assumption)) (by k_asm) (by k_asm) (by k_asm) (by first | with_reducible assumption | exact Nat.succ_pos _) (by first | with_reducible assumption | exact Nat.succ_pos _) (by first | with_reducible assumption | exact Nat.succ_pos _)
    | exact hret _ _ _ _ _ _ _ _ _ ((hsv_2 (by with_reducible assumption)).trans (by rw [hue_1 (by with_reducible assumption)])) (by k_asm) (by k_asm) (by k_asm) (by first | with_reducible assumption | exact Nat.succ_pos _) (by first | with_reducible assumption | exact Nat.succ_pos _) (by first | with_reducible assumption | exact Nat.succ_pos _)
    | exact hret _ _ _ _ _ _ _ _ _ ((hsv_2 (by with_reducible assumption)).trans (by rw [hue_2 (by with_reducible assumption) (by with_reducible assumption)])) (by k_asm) (by k_asm) (by k_asm) (by first | with_reducible assumption | exact Nat.succ_pos _) (by first | with_reducible assumption | exact Nat.succ_pos _) (by first | with_reducible assumption | exact Nat.succ_pos _)
    | exact hret _ _ _ _ _ _ _ _ _ ((hsv_2 (by with_reducible assumption)).trans (by rw [hue_3 (by with_reducible assumption) (by with_reducible assumption)])) (by k_asm) (by k_asm) (by k_asm) (by first | with_reducible assumption | exact Nat.succ_pos _) (by first | with_reducible assumption | exact Nat.succ_pos _) (by first | with_reducible assumption | exact Nat.succ_pos _)
    | exact absurd (show Float64.isZero (max3F x y z) = true by with_reducible assumption) (by rw [g2 (by with_reducible assumption)]; exact Bool.false_ne_true)
    | exact absurd (show Float64.isZero (Float64.sub (max3F x y z) (min3F x y z)) = true by with_reducible assumption) (by rw [g1 (by with_reducible assumption)]; exact Bool.false_ne_true)
end
section
theorem clear_Pure1 : True := by k_with_none; trivial
open PySem
open Float64
/-- how far the hue lies from a part's own corner -/
noncomputable def fall (c h : Int) : Int := min (max (min (Int.fmod (3 * h - c) 48) (48 - Int.fmod (3 * h - c) 48) - 8) 0) 8
noncomputable def colP (c h s l : Int) : Int := l * (32768 - s * fall c h)
noncomputable def colF (c h s l : Int) : UInt64 := fl (colP c h s l) 27
structure Valid (h s l : Int) : Prop where
  h0 : 0 ≤ h
  h1 : h < 16
  s0 : 0 ≤ s
  s1 : s ≤ 4096
  l0 : 0 ≤ l
  l1 : l ≤ 4096
  sh : s = 0 → h = 0
  ls : l = 0 → s = 0

theorem max2_fl {a b : Int} {k : Nat} (ha : a.natAbs < 2 ^ 53) (hb : b.natAbs < 2 ^ 53) (hk : k ≤ 1000) : max2F (fl a k) (fl b k) = fl (max a b) k := by
  unfold max2F
  rw [fl_cmp ha hb hk]
  rcases Int.lt_trichotomy a b with h | h | h
  · rw [Int.compare_eq_lt.mpr h, if_pos (by decide), Int.max_eq_right (Int.le_of_lt h)]
  · subst h; simp
  · rw [Int.compare_eq_gt.mpr h, if_neg (by decide), Int.max_eq_left (Int.le_of_lt h)]
theorem min2_fl {a b : Int} {k : Nat} (ha : a.natAbs < 2 ^ 53) (hb : b.natAbs < 2 ^ 53) (hk : k ≤ 1000) : min2F (fl a k) (fl b k) = fl (min a b) k := by
  unfold min2F
  rw [fl_cmp hb ha hk]
  rcases Int.lt_trichotomy b a with h | h | h
  · rw [Int.compare_eq_lt.mpr h, if_pos (by decide), Int.min_eq_right (Int.le_of_lt h)]
  · subst h; simp
  · rw [Int.compare_eq_gt.mpr h, if_neg (by decide), Int.min_eq_left (Int.le_of_lt h)]
theorem max_b {a b : Int} {n : Nat} (ha : a.natAbs < n) (hb : b.natAbs < n) : (max a b).natAbs < n := by
  rcases Int.le_total a b with h | h
  · rw [Int.max_eq_right h]; exact hb
  · rw [Int.max_eq_left h]; exact ha
theorem min_b {a b : Int} {n : Nat} (ha : a.natAbs < n) (hb : b.natAbs < n) : (min a b).natAbs < n := by
  rcases Int.le_total a b with h | h
  · rw [Int.min_eq_left h]; exact ha
  · rw [Int.min_eq_right h]; exact hb
theorem max3_fl {a b c : Int} {k : Nat} (ha : a.natAbs < 2 ^ 53) (hb : b.natAbs < 2 ^ 53) (hc : c.natAbs < 2 ^ 53) (hk : k ≤ 1000) : max3F (fl a k) (fl b k) (fl c k) = fl (max (max a b) c) k := by
  unfold max3F; rw [max2_fl ha hb hk, max2_fl (max_b ha hb) hc hk]
theorem min3_fl {a b c : Int} {k : Nat} (ha : a.natAbs < 2 ^ 53) (hb : b.natAbs < 2 ^ 53) (hc : c.natAbs < 2 ^ 53) (hk : k ≤ 1000) : min3F (fl a k) (fl b k) (fl c k) = fl (min (min a b) c) k := by
  unfold min3F; rw [min2_fl ha hb hk, min2_fl (min_b ha hb) hc hk]
theorem eq_fl {a b : Int} {k : Nat} (ha : a.natAbs < 2 ^ 53) (hb : b.natAbs < 2 ^ 53) (hk : k ≤ 1000) : eqF (fl a k) (fl b k) = decide (a = b) := by
  unfold eqF
  rw [fl_cmp ha hb hk]
  rcases Int.lt_trichotomy a b with h | h | h
  · rw [Int.compare_eq_lt.mpr h, decide_eq_false (by omega)]; rfl
  · subst h; simp
  · rw [Int.compare_eq_gt.mpr h, decide_eq_false (by omega)]; rfl

theorem lit0k (k : Nat) : (0 : UInt64) = fl 0 k := by rw [fl_zero]; decide +kernel
theorem lit1 : (4607182418800017408 : UInt64) = fl 1 0 := by decide +kernel
theorem lit2 : (4611686018427387904 : UInt64) = fl 2 0 := by decide +kernel
theorem lit6 : (4618441417868443648 : UInt64) = fl 6 0 := by decide +kernel
theorem lit2' : (4611686018427387904 : UInt64) = fl 16 3 := by decide +kernel
theorem lit4' : (4616189618054758400 : UInt64) = fl 32 3 := by decide +kernel

theorem u53 {a : Int} (h : a.natAbs < 2 ^ 50) : a.natAbs < 2 ^ 53 := Nat.lt_trans h (by decide)
theorem sb50 {a b : Int} (ha : a.natAbs < 2 ^ 50) (hb : b.natAbs < 2 ^ 50) : (a - b).natAbs < 2 ^ 53 :=
  Nat.lt_trans (Nat.lt_of_le_of_lt (Int.natAbs_sub_le a b) (Nat.add_lt_add ha hb)) (by decide)
theorem sub50 {a b : Int} {k : Nat} (hk : k ≤ 100) (ha : a.natAbs < 2 ^ 50) (hb : b.natAbs < 2 ^ 50) : sub (fl a k) (fl b k) = fl (a - b) k :=
  fl_sub (u53 ha) (u53 hb) (sb50 ha hb) (Nat.le_trans hk (by decide))
theorem le8' {f : Int} (hf : 0 ≤ f ∧ f ≤ 8) : f.natAbs < 2 ^ 53 := by omega
theorem dv50 {Mx Mn T f : Int} {k : Nat} (hk : k ≤ 100) (hlt : Mn < Mx) (hMx : Mx.natAbs < 2 ^ 50) (hMn : Mn.natAbs < 2 ^ 50) (hT : T.natAbs < 2 ^ 50) (hf : 0 ≤ f ∧ f ≤ 8) (he : (Mx - T) * 8 = f * (Mx - Mn)) : div (fl (Mx - T) k) (fl (Mx - Mn) k) = fl f 3 := by
  refine fl_div (Int.sub_pos_of_lt hlt) (sb50 hMx hT) (sb50 hMx hMn) (le8' hf) (Nat.le_trans hk (by decide)) (Nat.le_trans hk (by decide)) (by decide) ?_
  rw [Int.pow_add, show (2 : Int) ^ 3 = 8 by decide, ← Int.mul_assoc, he]
theorem y50 {X Y' : Int} (hx : X = 3 * Y') (hb : X.natAbs < 100) : Y'.natAbs < 100 := by
  rw [hx, Int.natAbs_mul] at hb
  exact Nat.lt_of_le_of_lt (Nat.le_mul_of_pos_left _ (by decide)) hb
theorem key50 {X Y' : Int} (hx : X = 3 * Y') (hb : X.natAbs < 100) : (divmod (div (fl X 3) 4618441417868443648) 4607182418800017408).2 = fl (Y' % 16) 4 := by
  rw [lit6, lit1, fl_div (c := Y') (i := 4) (by decide) (Nat.lt_trans hb (by decide)) (by decide) (Nat.lt_trans (y50 hx hb) (by decide)) (by decide) (by decide) (by decide) (by subst hx; lia), fl_mod1 (Nat.lt_trans (y50 hx hb) (by decide)) (by decide)]
  rfl
theorem one50 {a b : Int} (ha : 0 ≤ a ∧ a ≤ 8) (hb : 0 ≤ b ∧ b ≤ 8) : sub (fl a 3) (fl b 3) = fl (a - b) 3 ∧ (a - b).natAbs < 100 :=
  ⟨fl_sub (by omega) (by omega) (by omega) (by decide), by omega⟩
theorem two50 {n a b : Int} (hn : 0 ≤ n ∧ n ≤ 32) (ha : 0 ≤ a ∧ a ≤ 8) (hb : 0 ≤ b ∧ b ≤ 8) : sub (add (fl n 3) (fl a 3)) (fl b 3) = fl (n + a - b) 3 ∧ (n + a - b).natAbs < 100 :=
  ⟨by rw [fl_add (by omega) (by omega) (by omega) (by decide), fl_sub (by omega) (by omega) (by omega) (by decide)], by omega⟩
theorem hue_gen {R G B Mx Mn f0 f1 f2 Y : Int} {k : Nat} (hk : k ≤ 100) (hR : R.natAbs < 2 ^ 50) (hG : G.natAbs < 2 ^ 50) (hB : B.natAbs < 2 ^ 50) (hMx : Mx.natAbs < 2 ^ 50) (hMn : Mn.natAbs < 2 ^ 50) (hlt : Mn < Mx)
    (h0 : (Mx - R) * 8 = f0 * (Mx - Mn)) (h1 : (Mx - G) * 8 = f1 * (Mx - Mn)) (h2 : (Mx - B) * 8 = f2 * (Mx - Mn)) (b0 : 0 ≤ f0 ∧ f0 ≤ 8) (b1 : 0 ≤ f1 ∧ f1 ≤ 8) (b2 : 0 ≤ f2 ∧ f2 ≤ 8)
    (hX : (if R = Mx then f2 - f1 else if G = Mx then 16 + f0 - f2 else 32 + f1 - f0) = 3 * Y) :
    hueF (fl R k) (fl G k) (fl B k) (fl Mx k) (fl Mn k) = fl (Y % 16) 4 := by
  have k3 : k ≤ 1000 := Nat.le_trans hk (by decide)
  have eR := eq_fl (u53 hR) (u53 hMx) k3
  have eG := eq_fl (u53 hG) (u53 hMx) k3
  by_cases q : R = Mx
  · rw [if_pos q] at hX
    rw [hue_1 (by rw [eR]; exact decide_eq_true q), sub50 hk hMx hB, sub50 hk hMx hG, sub50 hk hMx hMn, dv50 hk hlt hMx hMn hB b2 h2, dv50 hk hlt hMx hMn hG b1 h1, (one50 b2 b1).1, key50 hX (one50 b2 b1).2]
  · rw [if_neg q] at hX
    by_cases q2 : G = Mx
    · rw [if_pos q2] at hX
      rw [hue_2 (by rw [eR]; exact decide_eq_false q) (by rw [eG]; exact decide_eq_true q2), sub50 hk hMx hB, sub50 hk hMx hR, sub50 hk hMx hMn, dv50 hk hlt hMx hMn hB b2 h2, dv50 hk hlt hMx hMn hR b0 h0, lit2', (two50 ⟨by decide, by decide⟩ b0 b2).1, key50 hX (two50 ⟨by decide, by decide⟩ b0 b2).2]
    · rw [if_neg q2] at hX
      rw [hue_3 (by rw [eR]; exact decide_eq_false q) (by rw [eG]; exact decide_eq_false q2), sub50 hk hMx hG, sub50 hk hMx hR, sub50 hk hMx hMn, dv50 hk hlt hMx hMn hG b1 h1, dv50 hk hlt hMx hMn hR b0 h0, lit4', (two50 ⟨by decide, by decide⟩ b1 b0).1, key50 hX (two50 ⟨by decide, by decide⟩ b1 b0).2]

/-- the sixteen hues: the three falls, and the hue's own number -/
noncomputable def ytab (n : Nat) : Int := if n < 14 then n else (n : Int) - 16
theorem falls_tab : ∀ n : Fin 16, (0 ≤ fall 0 n.val ∧ fall 0 n.val ≤ 8) ∧ (0 ≤ fall 16 n.val ∧ fall 16 n.val ≤ 8) ∧ (0 ≤ fall 32 n.val ∧ fall 32 n.val ≤ 8) ∧
    (fall 0 n.val = 0 ∨ fall 16 n.val = 0 ∨ fall 32 n.val = 0) ∧ (fall 0 n.val = 8 ∨ fall 16 n.val = 8 ∨ fall 32 n.val = 8) ∧
    (if fall 0 n.val = 0 then fall 32 n.val - fall 16 n.val else if fall 16 n.val = 0 then 16 + fall 0 n.val - fall 32 n.val else 32 + fall 16 n.val - fall 0 n.val) = 3 * ytab n.val ∧ ytab n.val % 16 = n.val := by decide +kernel
theorem falls {h : Int} (h0 : 0 ≤ h) (h1 : h < 16) : ∃ f0 f1 f2 : Int, fall 0 h = f0 ∧ fall 16 h = f1 ∧ fall 32 h = f2 ∧ (0 ≤ f0 ∧ f0 ≤ 8) ∧ (0 ≤ f1 ∧ f1 ≤ 8) ∧ (0 ≤ f2 ∧ f2 ≤ 8) ∧
    (f0 = 0 ∨ f1 = 0 ∨ f2 = 0) ∧ (f0 = 8 ∨ f1 = 8 ∨ f2 = 8) ∧ ∃ Y : Int, (if f0 = 0 then f2 - f1 else if f1 = 0 then 16 + f0 - f2 else 32 + f1 - f0) = 3 * Y ∧ Y % 16 = h := by
  obtain ⟨n, rfl⟩ : ∃ n : Nat, h = n := ⟨h.toNat, by lia⟩
  have t := falls_tab ⟨n, by omega⟩
  exact ⟨_, _, _, rfl, rfl, rfl, t.1, t.2.1, t.2.2.1, t.2.2.2.1, t.2.2.2.2.1, _, t.2.2.2.2.2⟩

theorem prod_le {a b A B : Int} (ha : 0 ≤ a) (hA : a ≤ A) (hb : 0 ≤ b) (hB : b ≤ B) : 0 ≤ a * b ∧ a * b ≤ A * B :=
  ⟨Int.mul_nonneg ha hb, Int.mul_le_mul hA hB hb (by omega)⟩

theorem mul8 {P f : Int} (p : 0 ≤ P) (hf : 0 ≤ f ∧ f ≤ 8) : 0 ≤ P * f ∧ P * f ≤ P * 8 := ⟨Int.mul_nonneg p hf.1, Int.mul_le_mul_of_nonneg_left hf.2 p⟩
theorem sub_up {L a : Int} (ha : 0 ≤ a) : L - a ≤ L := Int.sub_le_self _ ha
theorem mx3 {L a b c : Int} (ha : 0 ≤ a) (hb : 0 ≤ b) (hc : 0 ≤ c) (z : a = 0 ∨ b = 0 ∨ c = 0) : max (max (L - a) (L - b)) (L - c) = L := by
  refine Int.le_antisymm (Int.max_le.mpr ⟨Int.max_le.mpr ⟨sub_up ha, sub_up hb⟩, sub_up hc⟩) ?_
  rcases z with rfl | rfl | rfl
  · exact Int.le_trans (Int.le_of_eq (Int.sub_zero L).symm) (Int.le_trans (Int.le_max_left ..) (Int.le_max_left ..))
  · exact Int.le_trans (Int.le_of_eq (Int.sub_zero L).symm) (Int.le_trans (Int.le_max_right ..) (Int.le_max_left ..))
  · exact Int.le_trans (Int.le_of_eq (Int.sub_zero L).symm) (Int.le_max_right ..)
theorem mn3 {L M a b c : Int} (ha : a ≤ M) (hb : b ≤ M) (hc : c ≤ M) (z : a = M ∨ b = M ∨ c = M) : min (min (L - a) (L - b)) (L - c) = L - M := by
  refine Int.le_antisymm ?_ (Int.le_min.mpr ⟨Int.le_min.mpr ⟨Int.sub_le_sub_left ha L, Int.sub_le_sub_left hb L⟩, Int.sub_le_sub_left hc L⟩)
  rcases z with rfl | rfl | rfl
  · exact Int.le_trans (Int.min_le_left ..) (Int.min_le_left ..)
  · exact Int.le_trans (Int.min_le_left ..) (Int.min_le_right ..)
  · exact Int.min_le_right ..
theorem hh8 {L P f : Int} : (L - (L - P * f)) * 8 = f * (L - (L - P * 8)) := by
  rw [Int.sub_sub_self, Int.sub_sub_self, Int.mul_comm f (P * 8), Int.mul_assoc, Int.mul_assoc, Int.mul_comm f 8]
theorem lt8 {L P : Int} (h : P ≠ 0) (p : 0 ≤ P) : L - P * 8 < L := by lia
theorem l50 {l : Int} (l0 : 0 ≤ l) (l1 : l ≤ 4096) : (l * 32768).natAbs < 2 ^ 50 := by omega
theorem sext_table : ∀ n : Fin 47, (((6 * n.val / 16) % 6 = 0 ∧ fall 0 n.val = 0 ∧ 2 * fall 16 n.val = 16 - (6 * n.val % 16 : Nat) ∧ fall 32 n.val = 8) ∨
    ((6 * n.val / 16) % 6 = 1 ∧ 2 * fall 0 n.val = (6 * n.val % 16 : Nat) ∧ fall 16 n.val = 0 ∧ fall 32 n.val = 8) ∨
    ((6 * n.val / 16) % 6 = 2 ∧ fall 0 n.val = 8 ∧ fall 16 n.val = 0 ∧ 2 * fall 32 n.val = 16 - (6 * n.val % 16 : Nat)) ∨
    ((6 * n.val / 16) % 6 = 3 ∧ fall 0 n.val = 8 ∧ 2 * fall 16 n.val = (6 * n.val % 16 : Nat) ∧ fall 32 n.val = 0) ∨
    ((6 * n.val / 16) % 6 = 4 ∧ 2 * fall 0 n.val = 16 - (6 * n.val % 16 : Nat) ∧ fall 16 n.val = 8 ∧ fall 32 n.val = 0) ∨
    ((6 * n.val / 16) % 6 = 5 ∧ fall 0 n.val = 0 ∧ fall 16 n.val = 8 ∧ 2 * fall 32 n.val = (6 * n.val % 16 : Nat))) := by decide +kernel

theorem b4 {h : Int} (h0 : 0 ≤ h) (h1 : h < 47) : h.natAbs < 2 ^ 53 ∧ (h * 6).natAbs < 2 ^ 53 := by omega
theorem six_fl {n : Nat} (hn : n < 47) : sixF (fl (n : Int) 4) = fl ((6 * n : Nat) : Int) 4 := by
  have hb := b4 (h := n) (by omega) (by omega)
  show mul (fl (n : Int) 4) 4618441417868443648 = _
  rw [lit6, fl_mul (Int.natCast_nonneg n) (by decide) hb.1 (by decide) hb.2 (by decide), Int.mul_comm]
  rfl
theorem n6 {n : Nat} (hn : n < 47) : ((6 * n : Nat) : Int).natAbs < 2 ^ 53 := by omega
theorem part_fl {n : Nat} (hn : n < 47) : partF (fl (n : Int) 4) = fl ((6 * n % 16 : Nat) : Int) 4 := by
  have htr : Flt.toInt truncOf (sixF (fl (n : Int) 4)) = ((6 * n / 16 : Nat) : Int) := by rw [six_fl hn, fl_trunc (by omega) (by decide)]
  show sub (sixF (fl (n : Int) 4)) (ofInt (Flt.toInt truncOf (sixF (fl (n : Int) 4)))) = _
  rw [htr, six_fl hn, fl_ofInt (nn (Int.natCast_nonneg _) (by omega)), show fl ((6 * n / 16 : Nat) : Int) 0 = fl (((6 * n / 16 : Nat) : Int) * 2 ^ 4) 4 from (fl_up (k := 0) (j := 4) (nn (Int.mul_nonneg (Int.natCast_nonneg _) (by decide)) (by omega)) (by decide)).symm, fl_sub (n6 hn) (nn (Int.mul_nonneg (Int.natCast_nonneg _) (by decide)) (by omega)) (nn (by omega) (by omega)) (by decide)]
  congr 1; omega
theorem le12 {x : Int} (h0 : 0 ≤ x) (h1 : x ≤ 4096) : x.natAbs < 2 ^ 53 := by omega
theorem le30 {x : Int} (h0 : 0 ≤ x) (h1 : x ≤ 4096 * 65536) : x.natAbs < 2 ^ 53 := by omega
theorem lit1k12 : (4607182418800017408 : UInt64) = fl 4096 12 := by decide +kernel
theorem lit1k16 : (4607182418800017408 : UInt64) = fl 65536 16 := by decide +kernel
theorem lit1k4 : (4607182418800017408 : UInt64) = fl 16 4 := by decide +kernel
section
variable {s l : Int} (s0 : 0 ≤ s) (s1 : s ≤ 4096) (l0 : 0 ≤ l) (l1 : l ≤ 4096)
include s0 s1 l0 l1
theorem p_fl {c h : Int} (ef : fall c h = 8) : pF (fl s 12) (fl l 12) = colF c h s l := by
  show mul (fl l 12) (sub 4607182418800017408 (fl s 12)) = _
  have q0 : 0 ≤ 4096 - s := Int.sub_nonneg_of_le s1
  have q1 : 4096 - s ≤ 4096 := Int.sub_le_self _ s0
  have hb := prod_le l0 l1 q0 q1
  have hn : (l * (4096 - s)).natAbs < 2 ^ 53 := le30 hb.1 (Int.le_trans hb.2 (by decide))
  rw [lit1k12, fl_sub (by decide) (le12 s0 s1) (le12 q0 q1) (by decide), fl_mul l0 q0 (le12 l0 l1) (le12 q0 q1) hn (by decide)]
  unfold colF colP
  rw [ef]
  have : l * (32768 - s * 8) = l * (4096 - s) * 2 ^ 3 := by
    rw [Int.mul_assoc]; congr 1
    rw [Int.sub_mul]; rfl
  have hn3 : (l * (4096 - s) * 2 ^ 3).natAbs < 2 ^ 53 := by
    have := hb.1
    have := hb.2
    generalize l * (4096 - s) = y at *
    omega
  rw [this]
  exact (fl_up (k := 24) (j := 3) hn3 (by decide)).symm
theorem x_fl {c h g : Int} (g0 : 0 ≤ g) (g1 : g ≤ 16) (ef : 2 * fall c h = g) : mul (fl l 12) (sub 4607182418800017408 (mul (fl s 12) (fl g 4))) = colF c h s l := by
  have hb := prod_le s0 s1 g0 g1
  have q0 : 0 ≤ 65536 - s * g := Int.sub_nonneg_of_le hb.2
  have q1 : 65536 - s * g ≤ 65536 := Int.sub_le_self _ hb.1
  have hb2 := prod_le l0 l1 q0 q1
  have hn : (l * (65536 - s * g)).natAbs < 2 ^ 53 := le30 hb2.1 hb2.2
  have hg : g.natAbs < 2 ^ 53 := le12 g0 (Int.le_trans g1 (by decide))
  have hsg : (s * g).natAbs < 2 ^ 53 := le30 hb.1 (Int.le_trans hb.2 (by decide))
  have hq : (65536 - s * g).natAbs < 2 ^ 53 := le30 q0 (Int.le_trans q1 (by decide))
  rw [fl_mul s0 g0 (le12 s0 s1) hg hsg (by decide), lit1k16, fl_sub (by decide) hsg hq (by decide), fl_mul l0 q0 (le12 l0 l1) hq hn (by decide)]
  unfold colF colP
  have : l * (65536 - s * g) = l * (32768 - s * fall c h) * 2 ^ 1 := by
    rw [Int.mul_assoc, ← ef]; congr 1
    rw [Int.sub_mul, Int.mul_assoc, Int.mul_comm 2 (fall c h)]; rfl
  rw [this] at hn ⊢
  exact fl_up (k := 27) (j := 1) hn (by decide)
end
theorem rgb_st {h s l : Int} (h0 : 0 ≤ h) (h1 : h < 47) (s0 : 0 ≤ s) (s1 : s ≤ 4096) (l0 : 0 ≤ l) (l1 : l ≤ 4096) : rgbF (fl h 4) (fl s 12) (fl l 12) = (colF 0 h s l, colF 16 h s l, colF 32 h s l) ∧
    isNaN (sixF (fl h 4)) = false ∧ isInf (sixF (fl h 4)) = false ∧ (Flt.toInt truncOf (sixF (fl h 4))).natAbs < 2 ^ 1024 - 2 ^ 970 := by
  obtain ⟨n, rfl⟩ : ∃ n : Nat, h = n := ⟨h.toNat, by omega⟩
  have hn : n < 47 := by omega
  have h6 := six_fl hn
  have htr : Flt.toInt truncOf (sixF (fl (n : Int) 4)) = ((6 * n / 16 : Nat) : Int) := by rw [h6, fl_trunc (by omega) (by decide)]
  refine ⟨?_, ?_, ?_, ?_⟩
  · have colz : ∀ c f, fall c n = f → f = 0 → colF c n s l = fl l 12 := fun c f e e2 => by
      unfold colF colP
      rw [e, e2, Int.mul_zero]
      exact fl_up (a := l) (k := 12) (j := 15) (u53 (l50 l0 l1)) (by decide)
    by_cases hs : s = 0
    · have e : eqF (fl s 12) 0 = true := by rw [lit0k 12, eq_fl (le12 s0 s1) (by decide) (by decide)]; exact decide_eq_true hs
      rw [rgb_g e]
      have : ∀ c, colF c n s l = fl l 12 := fun c => by
        unfold colF colP
        rw [hs, Int.zero_mul]
        exact fl_up (a := l) (k := 12) (j := 15) (u53 (l50 l0 l1)) (by decide)
      rw [this, this, this]
    · have e : eqF (fl s 12) 0 = false := by rw [lit0k 12, eq_fl (le12 s0 s1) (by decide) (by decide)]; exact decide_eq_false hs
      have hsx : sextF (fl (n : Int) 4) = (((6 * n / 16) % 6 : Nat) : Int) := by
        show Int.fmod (Flt.toInt truncOf (sixF (fl (n : Int) 4))) 6 = _
        rw [htr, Int.fmod_eq_emod_of_nonneg _ (by decide)]; rfl
      have hr : 6 * n % 16 < 16 := Nat.mod_lt _ (by decide)
      have hg := part_fl hn
      have hp : ∀ c, fall c n = 8 → pF (fl s 12) (fl l 12) = colF c n s l := fun c ef => p_fl s0 s1 l0 l1 ef
      have hq : ∀ c, 2 * fall c n = (6 * n % 16 : Nat) → qF (fl (n : Int) 4) (fl s 12) (fl l 12) = colF c n s l := fun c ef => by
        show mul (fl l 12) (sub 4607182418800017408 (mul (fl s 12) (partF (fl (n : Int) 4)))) = _
        rw [hg]
        exact x_fl s0 s1 l0 l1 (Int.natCast_nonneg _) (Int.ofNat_le.mpr (Nat.le_of_lt hr)) ef
      have ht : ∀ c, 2 * fall c n = 16 - (6 * n % 16 : Nat) → tF (fl (n : Int) 4) (fl s 12) (fl l 12) = colF c n s l := fun c ef => by
        show mul (fl l 12) (sub 4607182418800017408 (mul (fl s 12) (sub 4607182418800017408 (partF (fl (n : Int) 4))))) = _
        have r0 : 0 ≤ 16 - ((6 * n % 16 : Nat) : Int) := Int.sub_nonneg_of_le (Int.ofNat_le.mpr (Nat.le_of_lt hr))
        have r1 : 16 - ((6 * n % 16 : Nat) : Int) ≤ 16 := Int.sub_le_self _ (Int.natCast_nonneg _)
        rw [hg, lit1k4, fl_sub (by decide) (le12 (Int.natCast_nonneg _) (Int.le_trans (Int.ofNat_le.mpr (Nat.le_of_lt hr)) (by decide))) (le12 r0 (Int.le_trans r1 (by decide))) (by decide), ← lit1k4]
        exact x_fl s0 s1 l0 l1 r0 r1 ef
      have tb := sext_table ⟨n, hn⟩
      simp only at tb
      rcases tb with ⟨k, a, b, c⟩ | ⟨k, a, b, c⟩ | ⟨k, a, b, c⟩ | ⟨k, a, b, c⟩ | ⟨k, a, b, c⟩ | ⟨k, a, b, c⟩
      · rw [rgb_0 e (by rw [hsx, k]; rfl), colz 0 _ rfl a, ht 16 b, hp 32 c]
      · rw [rgb_1 e (by rw [hsx, k]; rfl), colz 16 _ rfl b, hq 0 a, hp 32 c]
      · rw [rgb_2 e (by rw [hsx, k]; rfl), colz 16 _ rfl b, ht 32 c, hp 0 a]
      · rw [rgb_3 e (by rw [hsx, k]; rfl), colz 32 _ rfl c, hq 16 b, hp 0 a]
      · rw [rgb_4 e (by rw [hsx, k]; rfl), colz 32 _ rfl c, ht 0 a, hp 16 b]
      · rw [rgb_5 e (by rw [hsx, k]; rfl), colz 0 _ rfl a, hq 32 c, hp 16 b]
  · rw [h6]; exact fl_isNaN (n6 hn) (by decide)
  · rw [h6]; exact fl_isInf (n6 hn) (by decide)
  · rw [htr]
    have : (100 : Nat) < 2 ^ 1024 - 2 ^ 970 := by decide +kernel
    exact Nat.lt_trans (show (((6 * n / 16 : Nat) : Int)).natAbs < 100 by rw [Int.natAbs_natCast]; omega) this
end
section
theorem clear_Reck1 : True := by k_with_none; trivial
open PySem
open Float64
structure Tri where
  h : Int
  s : Int
  l : Int
structure OkDeed (kd am : Int) : Prop where
  k0 : 0 ≤ kd
  k3 : kd ≤ 3
  a0 : 0 ≤ am
  a1 : am < 32
  a2 : kd ≠ 0 → am < 2

theorem div_k {n : Int} {d : Int} {k : Nat} (hn : n.natAbs < 2 ^ 53) (hk : k ≤ 1000) (hd : d = 2 ^ k) : ofFrac (decide (n < 0) != decide (d < 0)) n.natAbs d.natAbs = fl n k := by
  have hp : (0 : Int) < 2 ^ k := Int.pow_pos (by decide)
  rw [decide_eq_false (by lia : ¬ d < 0), Bool.bne_false]
  refine fl_ofFrac hn hk ?_
  rw [hd, Int.natAbs_pow]; rfl
section
variable {t : Tri} {kd am : Int}
end
end
section
theorem clear_StepB : True := by k_with_none; trivial
open PySem PySem.W PyProof.Rows
set_option maxRecDepth 100000
set_option maxHeartbeats 8000000
theorem fillS : True := by
  have h2 : (hd.heap_1 = hd.heap_1 ∧ PySem.Challenge.rw_mq0203_02 = PySem.Challenge.rw_mq0203_02) → True := fun _ => trivial
  apply h2
  k_fill
  exact ⟨rfl, rfl⟩
set_option pp.deepTerms false
set_option pp.deepTerms.threshold 6
theorem line_StepB_1 : True := by
  k_with "execs cons!" => (k_here; (with_reducible refine wpAny_gen1 ?_); intro _ _)
  trivial
/-- one step on a part, as floats -/
noncomputable def stepF (x : UInt64) (g : Int) : UInt64 := if g = 9 then Float64.sub (Float64.ofInt 1) x else Float64.div (Float64.add x (Float64.ofFrac (decide (g < 0) != decide ((8 : Int) < 0)) g.natAbs (8 : Int).natAbs)) (Float64.ofInt 2)
theorem c_step {w : World} {p : Program} {loose : List Str} {mean : ExcName → Option Value} {mg mb : Str → Option Value} {dp un : Nat} {gd : Option (List Code)} {cn : Str} {cs : Scope} {a : Addr} {ccd : Value} {cl : List (Str × Addr)} {outer : List Env} {A₀ : Around} {base h₀ : Heap} {L : Addr} {m : Str → Option Value} {news : List (Addr × Obj)} {s : Shared} {Q E : Value → Shared → Prop} {x : UInt64} {g : Int} {tx tg : Tok}
    (B : Below A₀ base outer h₀) (F : Fr h₀ L s.heap m) (X : (hd.heap_1 w.params).In h₀) (N : News h₀ L s.heap news) (T : Top p loose mean mg mb h₀) (hk : cs.kind = .function) (px : @LT.lt Nat _ 0 tx) (g0 : 0 ≤ g) (g9 : g ≤ 9) (hdp : dp + 1 < recursionLimit) (hun : un + 8 < cLine)
    (hret : ∀ (y : UInt64) (t1 : Tok) (h' : Heap) (tk' : Nat), y = stepF x g → Fr h₀ L h' m → News h₀ L h' news → @LT.lt Nat _ 0 t1 → Q (.float y t1) { s with heap := h', toks := tk' }) :
    wpAny (model PySem.Challenge.rw_mq0203_02.prog w) (ktrTop dp un gd cn cs L a ccd cl outer) (call (.ref 63) [.float x tx, .int g tg]) Q E s := by
  refine wpAny_call ?_
  k_dflt cell_enter
  k_steps
  · exact hret _ _ _ _ (by unfold stepF; rw [if_pos (by with_reducible assumption)]) (by k_asm) (by k_asm) (Nat.succ_pos _)
  · exact hret _ _ _ _ (by unfold stepF; rw [if_neg (by with_reducible assumption)]) (by k_asm) (by k_asm) (Nat.succ_pos _)
end
section
theorem clear_PlB1 : True := by k_with_none; trivial
open PySem
open Float64
theorem pw {k m : Nat} (h : k ≤ m) : (2 : Int) ^ k ≤ 2 ^ m := by
  have e := Int.ofNat_le.mpr (Nat.pow_le_pow_right (n := 2) (by decide) h)
  rwa [Int.natCast_pow, Int.natCast_pow] at e
/-- a part at the place k: a whole number of 2^-k, from nought to one -/
structure PartB (n : Int) (k : Nat) : Prop where
  n0 : 0 ≤ n
  n1 : n ≤ 2 ^ k
  k3 : 3 ≤ k
  k14 : k ≤ 14
theorem PartB.lt {n : Int} {k : Nat} (p : PartB n k) : n.natAbs < 2 ^ 53 := by
  have h : (2 : Int) ^ k ≤ 2 ^ 14 := pw p.k14
  exact nn p.n0 (Int.lt_of_le_of_lt (Int.le_trans p.n1 h) (by decide))
theorem pow_b {k : Nat} (h : k ≤ 15) : ((2 : Int) ^ k).natAbs < 2 ^ 53 :=
  nn (Int.le_of_lt (Int.pow_pos (by decide))) (Int.lt_of_le_of_lt (pw h) (by decide))
theorem one_k {k : Nat} (h : k ≤ 14) : ofInt 1 = fl (2 ^ k) k := by
  rw [fl_ofInt (by decide)]
  have e := fl_up (a := 1) (k := 0) (j := k) (by rw [Int.one_mul]; exact pow_b (Nat.le_succ_of_le h)) (Nat.le_trans (by omega) (show 1000 ≤ 1000 from Nat.le_refl _))
  rw [Int.one_mul, Nat.zero_add] at e
  exact e.symm
theorem step_9 {n : Int} {k : Nat} (p : PartB n k) : stepF (fl n k) 9 = fl (2 ^ k - n) k ∧ PartB (2 ^ k - n) k := by
  have q : PartB (2 ^ k - n) k := ⟨Int.sub_nonneg_of_le p.n1, Int.sub_le_self _ p.n0, p.k3, p.k14⟩
  refine ⟨?_, q⟩
  unfold stepF
  rw [if_pos rfl, one_k p.k14, fl_sub (pow_b (Nat.le_succ_of_le p.k14)) p.lt q.lt (Nat.le_trans p.k14 (by decide))]
theorem step_g {n g : Int} {k : Nat} (p : PartB n k) (g0 : 0 ≤ g) (g8 : g ≤ 8) (hk : k ≤ 13) : stepF (fl n k) g = fl (n + g * 2 ^ (k - 3)) (k + 1) ∧ PartB (n + g * 2 ^ (k - 3)) (k + 1) := by
  have e8 : (2 : Int) ^ k = 8 * 2 ^ (k - 3) := by
    rw [show (8 : Int) = 2 ^ 3 from rfl, ← Int.pow_add, Nat.add_sub_cancel' p.k3]
  have hp : (0 : Int) < 2 ^ (k - 3) := Int.pow_pos (by decide)
  have h1 : 0 ≤ g * 2 ^ (k - 3) := Int.mul_nonneg g0 (Int.le_of_lt hp)
  have h2 : g * 2 ^ (k - 3) ≤ 2 ^ k := by rw [e8]; exact Int.mul_le_mul_of_nonneg_right g8 (Int.le_of_lt hp)
  have q : PartB (n + g * 2 ^ (k - 3)) (k + 1) := ⟨Int.add_nonneg p.n0 h1, by rw [Int.pow_succ, show (2 : Int) ^ k * 2 = 2 ^ k + 2 ^ k by omega]; exact Int.add_le_add p.n1 h2, Nat.le_succ_of_le p.k3, Nat.succ_le_succ hk⟩
  have hb : (g * 2 ^ (k - 3)).natAbs < 2 ^ 53 := nn h1 (Int.lt_of_le_of_lt (Int.le_trans h2 (pw p.k14)) (by decide))
  refine ⟨?_, q⟩
  unfold stepF
  rw [if_neg (by omega), div_k (d := 8) (k := 3) (nn g0 (by omega)) (by decide) rfl]
  have e3 : fl g 3 = fl (g * 2 ^ (k - 3)) k := by
    have e := fl_up (a := g) (k := 3) (j := k - 3) hb (by have := p.k3; have := p.k14; omega)
    rw [Nat.add_sub_cancel' p.k3] at e
    exact e.symm
  rw [e3, fl_add p.lt hb q.lt (Nat.le_trans p.k14 (by decide)), fl_ofInt (by decide)]
  refine fl_div (by decide) q.lt (by decide) q.lt (Nat.le_trans p.k14 (by decide)) (by decide) (Nat.le_trans (Nat.succ_le_succ p.k14) (by decide)) ?_
  rw [Int.mul_assoc, Nat.add_zero, Int.pow_succ, Int.mul_comm 2 (2 ^ k)]
end
section
theorem clear_PlB2 : True := by k_with_none; trivial
open PySem
open Float64
/-- the steps on a part in whole numbers: numerator and place -/
noncomputable def runB (n : Int) (k : Nat) : List Int → Int × Nat
  | [] => (n, k)
  | g :: gs => if g = 9 then runB (2 ^ k - n) k gs else runB (n + g * 2 ^ (k - 3)) (k + 1) gs
/-- the map that _law_map tells: scale and shift, read from the last step to the first -/
noncomputable def mapB : List Int → Int × Int
  | [] => (32, 0)
  | g :: gs => if g = 9 then (-(mapB gs).1, (mapB gs).2 + 16 * (mapB gs).1) else (Int.fdiv (mapB gs).1 2, (mapB gs).2 + g * (mapB gs).1)
theorem run_fl : ∀ {gs : List Int} {n : Int} {k : Nat}, PartB n k → (∀ g ∈ gs, 0 ≤ g ∧ g ≤ 9) → k + gs.length ≤ 14 →
    gs.foldl (fun x g => stepF x g) (fl n k) = fl (runB n k gs).1 (runB n k gs).2 ∧ PartB (runB n k gs).1 (runB n k gs).2
  | [], n, k, p, _, _ => ⟨rfl, p⟩
  | g :: gs, n, k, p, hg, hk => by
    have h0 := hg g List.mem_cons_self
    have hr := fun q hq => hg q (List.mem_cons_of_mem g hq)
    rw [List.length_cons] at hk
    rw [List.foldl_cons]
    unfold runB
    by_cases e : g = 9
    · subst e
      rw [if_pos rfl, (step_9 p).1]
      exact run_fl (step_9 p).2 hr (by omega)
    · rw [if_neg e]
      have s := step_g p h0.1 (by omega) (by omega)
      rw [s.1]
      exact run_fl s.2 hr (by omega)
theorem map_even : ∀ {gs : List Int}, gs.length ≤ 5 → (2 : Int) ^ (5 - gs.length) ∣ (mapB gs).1
  | [], _ => ⟨1, by decide⟩
  | g :: gs, h => by
    rw [List.length_cons] at h ⊢
    obtain ⟨c, e⟩ := map_even (gs := gs) (by omega)
    have e2 : (2 : Int) ^ (5 - gs.length) = 2 * 2 ^ (5 - (gs.length + 1)) := by
      rw [Int.mul_comm, ← Int.pow_succ]; congr 1; omega
    unfold mapB
    split
    · exact ⟨-(2 * c), by rw [e, e2, Int.mul_neg, Int.mul_assoc, Int.mul_left_comm]⟩
    · refine ⟨c, ?_⟩
      show Int.fdiv (mapB gs).1 2 = _
      rw [e, e2, Int.fdiv_eq_ediv_of_nonneg _ (by decide), Int.mul_assoc, Int.mul_ediv_cancel_left _ (by decide)]
/-- the steps one after another are the map -/
theorem run_map : ∀ {gs : List Int} {n : Int} {k : Nat}, 3 ≤ k → gs.length ≤ 5 → k + gs.length ≤ 14 →
    32 * ((runB n k gs).1 * 2 ^ (14 - (runB n k gs).2)) = (mapB gs).1 * (n * 2 ^ (14 - k)) + 1024 * (mapB gs).2
  | [], n, k, _, _, _ => by unfold runB mapB; simp
  | g :: gs, n, k, k3, h, hk => by
    rw [List.length_cons] at h hk
    unfold runB mapB
    by_cases e : g = 9
    · rw [if_pos e, if_pos e, run_map k3 (by omega) (by omega)]
      dsimp only
      have e2 : ((2 : Int) ^ k - n) * 2 ^ (14 - k) = 16384 - n * 2 ^ (14 - k) := by
        rw [Int.sub_mul, ← Int.pow_add, Nat.add_sub_cancel' (by omega)]; rfl
      rw [e2, Int.mul_sub, Int.neg_mul, Int.mul_add]
      generalize (mapB gs).1 * (n * 2 ^ (14 - k)) = y
      omega
    · rw [if_neg e, if_neg e, run_map (by omega) (by omega) (by omega)]
      dsimp only
      obtain ⟨c, ec⟩ := map_even (gs := gs) (by omega)
      have e3 : (2 : Int) ^ (5 - gs.length) = 2 * 2 ^ (4 - gs.length) := by
        rw [Int.mul_comm, ← Int.pow_succ]; congr 1; omega
      have e4 : (mapB gs).1 = 2 * (2 ^ (4 - gs.length) * c) := by rw [ec, e3, Int.mul_assoc]
      generalize 2 ^ (4 - gs.length) * c = A at e4
      have e5 : Int.fdiv (mapB gs).1 2 = A := by rw [e4, Int.fdiv_eq_ediv_of_nonneg _ (by decide), Int.mul_ediv_cancel_left _ (by decide)]
      rw [e5, e4]
      have e6 : (2 : Int) ^ (14 - k) = 2 * 2 ^ (14 - (k + 1)) := by rw [Int.mul_comm, ← Int.pow_succ]; congr 1; omega
      have e7 : (2 : Int) ^ (k - 3) * 2 ^ (14 - (k + 1)) = 1024 := by
        rw [← Int.pow_add, show k - 3 + (14 - (k + 1)) = 10 by omega]; rfl
      have e8 : (n + g * 2 ^ (k - 3)) * 2 ^ (14 - (k + 1)) = n * 2 ^ (14 - (k + 1)) + g * 1024 := by rw [Int.add_mul, Int.mul_assoc g, e7]
      rw [e8, e6]
      generalize (2 : Int) ^ (14 - (k + 1)) = T
      have e9 : 2 * A * (n * T + g * 1024) = 2 * (A * (n * T)) + 2048 * (g * A) := by
        rw [Int.mul_add, Int.mul_assoc, Int.mul_assoc 2 A (g * 1024), ← Int.mul_assoc A g, Int.mul_comm A g]; omega
      have e10 : A * (n * (2 * T)) = 2 * (A * (n * T)) := by rw [Int.mul_left_comm n 2 T, Int.mul_left_comm A 2]
      have e11 : g * (2 * A) = 2 * (g * A) := Int.mul_left_comm ..
      rw [e9, e10, e11]
      generalize A * (n * T) = u
      generalize g * A = v
      omega
end
section
theorem clear_PlB3 : True := by k_with_none; trivial
open PySem
open Float64
theorem fall_r {c h : Int} : 0 ≤ fall c h ∧ fall c h ≤ 8 := by unfold fall; omega
noncomputable def partP (c h s l : Int) : Int := l * (64 - s * fall c h)
theorem up3 {x : Int} (h0 : 0 ≤ x) (h1 : x ≤ 8) : fl x 3 = fl (512 * x) 12 := by
  have e := fl_up (a := x) (k := 3) (j := 9) (nn (Int.mul_nonneg h0 (by decide)) (by omega)) (by decide)
  rw [← e, Int.mul_comm]; rfl
theorem part_b {c h s l : Int} (s0 : 0 ≤ s) (s1 : s ≤ 8) (l0 : 0 ≤ l) (l1 : l ≤ 8) : PartB (partP c h s l) 9 := by
  have f := fall_r (c := c) (h := h)
  have hp := prod_le s0 s1 f.1 f.2
  have q := prod_le (b := 64 - s * fall c h) (B := 64) l0 l1 (Int.sub_nonneg_of_le hp.2) (Int.sub_le_self _ hp.1)
  exact ⟨q.1, Int.le_trans q.2 (by decide), by decide, by decide⟩
theorem first_st {h s l : Int} (h0 : 0 ≤ h) (h1 : h < 47) (s0 : 0 ≤ s) (s1 : s ≤ 8) (l0 : 0 ≤ l) (l1 : l ≤ 8) : rgbF (fl h 4) (fl s 3) (fl l 3) = (fl (partP 0 h s l) 9, fl (partP 16 h s l) 9, fl (partP 32 h s l) 9) := by
  have r := (rgb_st h0 h1 (s := 512 * s) (l := 512 * l) (by omega) (by omega) (by omega) (by omega)).1
  have e : ∀ c, colF c h (512 * s) (512 * l) = fl (partP c h s l) 9 := fun c => by
    unfold colF colP partP
    have q := (part_b (c := c) (h := h) s0 s1 l0 l1)
    have e1 : 512 * l * (32768 - 512 * s * fall c h) = l * (64 - s * fall c h) * 2 ^ 18 := by
      have a : (32768 : Int) - 512 * s * fall c h = 512 * (64 - s * fall c h) := by rw [Int.mul_sub, Int.mul_assoc]; rfl
      rw [a, Int.mul_assoc 512 l, Int.mul_left_comm l 512, ← Int.mul_assoc 512 512, Int.mul_comm (512 * 512)]; rfl
    rw [e1]
    refine fl_up (k := 9) (j := 18) (nn (Int.mul_nonneg q.n0 (by decide)) ?_) (by decide)
    exact Int.lt_of_le_of_lt (Int.mul_le_mul_of_nonneg_right q.n1 (by decide)) (by decide)
  rw [up3 s0 s1, up3 l0 l1, r, e, e, e]
/-- a part in the end, as the whole numbers tell it -/
theorem end_part {gs : List Int} {n : Int} (p : PartB n 9) (hg : ∀ g ∈ gs, 0 ≤ g ∧ g ≤ 9) (h5 : gs.length ≤ 5) :
    gs.foldl (fun x g => stepF x g) (fl n 9) = fl ((mapB gs).1 * n + 32 * (mapB gs).2) 14 ∧ PartB ((mapB gs).1 * n + 32 * (mapB gs).2) 14 := by
  have r := run_fl p hg (by omega)
  have m := run_map (gs := gs) (n := n) (k := 9) (by decide) h5 (by omega)
  have e : (mapB gs).1 * n + 32 * (mapB gs).2 = (runB n 9 gs).1 * 2 ^ (14 - (runB n 9 gs).2) := by
    have e1 : (mapB gs).1 * (n * 2 ^ (14 - 9)) = 32 * ((mapB gs).1 * n) := by
      rw [← Int.mul_assoc, Int.mul_comm]; rfl
    rw [e1] at m
    generalize (mapB gs).1 * n = y at *
    omega
  have k14 := r.2.k14
  have k3 := r.2.k3
  have q : PartB ((runB n 9 gs).1 * 2 ^ (14 - (runB n 9 gs).2)) 14 := by
    refine ⟨Int.mul_nonneg r.2.n0 (Int.le_of_lt (Int.pow_pos (by decide))), ?_, by decide, by decide⟩
    have := Int.mul_le_mul_of_nonneg_right r.2.n1 (show (0 : Int) ≤ 2 ^ (14 - (runB n 9 gs).2) from Int.le_of_lt (Int.pow_pos (by decide)))
    rwa [← Int.pow_add, Nat.add_sub_cancel' k14] at this
  rw [e]
  refine ⟨r.1.trans ?_, q⟩
  have u := fl_up (a := (runB n 9 gs).1) (k := (runB n 9 gs).2) (j := 14 - (runB n 9 gs).2) q.lt (by omega)
  rw [Nat.add_sub_cancel' k14] at u
  exact u.symm
end
section
theorem clear_DivZ : True := by k_with_none; trivial
open PySem
open Float64
theorem V0 : V 0 = 0 := by decide +kernel
theorem V1 : V 1 = 1 := by decide +kernel
theorem div_fin {a b : Int} {k : Nat} (a0 : 0 < a) (hab : a ≤ b) (hb : b.natAbs < 2 ^ 53) (hk : k ≤ 500) : ∃ t, 0 < t ∧ t < infMag ∧ div (fl a k) (fl b k) = pack false t := by
  have ha : a.natAbs < 2 ^ 53 := by omega
  obtain ⟨m, e, h1, _, _⟩ := fl_dec ha (by omega : k ≤ 1000)
  obtain ⟨m', e', h1', hm'⟩ := fl_dec_ne hb (by omega : k ≤ 1000) (by omega)
  have h := div_right h1 h1' hm'
  rw [fl_val ha (by omega), fl_val hb (by omega), decide_eq_false (by omega : ¬ a < 0), decide_eq_false (by omega : ¬ b < 0)] at h
  obtain ⟨t, e1, hle, hinf, hnear⟩ := h
  obtain ⟨x, rfl⟩ : ∃ x : Nat, a = x := ⟨a.toNat, by omega⟩
  obtain ⟨y, rfl⟩ : ∃ y : Nat, b = y := ⟨b.toNat, by omega⟩
  have x0 : 0 < x := by omega
  have xy : x ≤ y := by omega
  have yb : y < 2 ^ 53 := hb
  rw [Int.natAbs_mul, Int.natAbs_mul] at hinf hnear
  simp only [Int.natAbs_natCast] at hinf hnear
  have hp := Nat.two_pow_pos (1074 - k)
  generalize (2 : Nat) ^ (1074 - k) = P at *
  have hDp : 0 < y * P := Nat.mul_pos (by omega) hp
  have hXD : x * P ≤ y * P := Nat.mul_le_mul_right _ xy
  have hW2 : y * P ≤ x * P * 2 ^ 1074 := by
    have c1 : y * P ≤ 2 ^ 1074 * P := Nat.mul_le_mul_right _ (Nat.le_trans (Nat.le_of_lt yb) (by decide +kernel))
    have c2 : 2 ^ 1074 * P ≤ x * P * 2 ^ 1074 := by
      rw [Nat.mul_comm (2 ^ 1074) P]
      exact Nat.mul_le_mul_right _ (Nat.le_mul_of_pos_left _ x0)
    exact Nat.le_trans c1 c2
  have hW : x * P * 2 ^ 1074 ≤ y * P * 2 ^ 1074 := Nat.mul_le_mul_right _ hXD
  have tlt : t < infMag := by
    refine Nat.lt_of_le_of_ne hle fun e => ?_
    have z := hinf.mp e
    have c : y * P * ((2 ^ 54 - 1) * 2 ^ 2045) ≤ y * P * (2 * 2 ^ 1074) := Nat.le_trans z (Nat.le_trans (Nat.mul_le_mul_left 2 hW) (Nat.le_of_eq (Nat.mul_left_comm ..)))
    have d := Nat.le_of_mul_le_mul_left c hDp
    exact absurd d (by decide +kernel)
  refine ⟨t, ?_, tlt, e1⟩
  refine Nat.pos_of_ne_zero fun z => ?_
  subst z
  have q := (hnear tlt 1).1
  rw [V0, V1, Nat.mul_zero, Nat.mul_one] at q
  generalize x * P * 2 ^ 1074 = W at *
  generalize y * P = D at *
  unfold dist at q
  omega
theorem pack_eq {t : Nat} (h : t < infMag) : (cmp (pack false t) (pack false t) == some .eq) = true := by
  obtain ⟨m, e, hd, _⟩ := decode_pack false h
  rw [cmp_right hd hd, Int.compare_eq_eq.mpr rfl]
  rfl
theorem pack_nz {t : Nat} (h0 : 0 < t) (h : t < infMag) : isZero (pack false t) = false := by
  obtain ⟨m, e, hd, hv⟩ := decode_pack false h
  have m0 : m ≠ 0 := fun z => by
    rw [z, Nat.zero_mul, ← V0] at hv
    exact absurd (V_inj hv) (by omega)
  unfold isZero
  rw [hd]
  cases m with
  | zero => exact absurd rfl m0
  | succ n => rfl
end
section
theorem clear_PlB4 : True := by k_with_none; trivial
open PySem
open Float64
/-! the light, at the places 10 to 15 -/
structure PartL (n : Int) (k : Nat) : Prop where
  n0 : 0 ≤ n
  n1 : n ≤ 2 ^ k
  k3 : 3 ≤ k
  k14 : k ≤ 15
theorem PartL.lt {n : Int} {k : Nat} (p : PartL n k) : n.natAbs < 2 ^ 53 := by
  have h : (2 : Int) ^ k ≤ 2 ^ 15 := pw p.k14
  exact nn p.n0 (Int.lt_of_le_of_lt (Int.le_trans p.n1 h) (by decide))
theorem one_kL {k : Nat} (h : k ≤ 15) : ofInt 1 = fl (2 ^ k) k := by
  rw [fl_ofInt (by decide)]
  have e := fl_up (a := 1) (k := 0) (j := k) (by rw [Int.one_mul]; exact pow_b h) (Nat.le_trans (by omega) (show 1000 ≤ 1000 from Nat.le_refl _))
  rw [Int.one_mul, Nat.zero_add] at e
  exact e.symm
theorem stepL_9 {n : Int} {k : Nat} (p : PartL n k) : stepF (fl n k) 9 = fl (2 ^ k - n) k ∧ PartL (2 ^ k - n) k := by
  have q : PartL (2 ^ k - n) k := ⟨Int.sub_nonneg_of_le p.n1, Int.sub_le_self _ p.n0, p.k3, p.k14⟩
  refine ⟨?_, q⟩
  unfold stepF
  rw [if_pos rfl, one_kL p.k14, fl_sub (pow_b p.k14) p.lt q.lt (Nat.le_trans p.k14 (by decide))]
theorem stepL_g {n g : Int} {k : Nat} (p : PartL n k) (g0 : 0 ≤ g) (g8 : g ≤ 8) (hk : k ≤ 14) : stepF (fl n k) g = fl (n + g * 2 ^ (k - 3)) (k + 1) ∧ PartL (n + g * 2 ^ (k - 3)) (k + 1) := by
  have e8 : (2 : Int) ^ k = 8 * 2 ^ (k - 3) := by
    rw [show (8 : Int) = 2 ^ 3 from rfl, ← Int.pow_add, Nat.add_sub_cancel' p.k3]
  have hp : (0 : Int) < 2 ^ (k - 3) := Int.pow_pos (by decide)
  have h1 : 0 ≤ g * 2 ^ (k - 3) := Int.mul_nonneg g0 (Int.le_of_lt hp)
  have h2 : g * 2 ^ (k - 3) ≤ 2 ^ k := by rw [e8]; exact Int.mul_le_mul_of_nonneg_right g8 (Int.le_of_lt hp)
  have q : PartL (n + g * 2 ^ (k - 3)) (k + 1) := ⟨Int.add_nonneg p.n0 h1, by rw [Int.pow_succ, show (2 : Int) ^ k * 2 = 2 ^ k + 2 ^ k by omega]; exact Int.add_le_add p.n1 h2, Nat.le_succ_of_le p.k3, Nat.succ_le_succ hk⟩
  have hb : (g * 2 ^ (k - 3)).natAbs < 2 ^ 53 := nn h1 (Int.lt_of_le_of_lt (Int.le_trans h2 (pw p.k14)) (by decide))
  refine ⟨?_, q⟩
  unfold stepF
  rw [if_neg (by omega), div_k (d := 8) (k := 3) (nn g0 (by omega)) (by decide) rfl]
  have e3 : fl g 3 = fl (g * 2 ^ (k - 3)) k := by
    have e := fl_up (a := g) (k := 3) (j := k - 3) hb (by have := p.k3; have := p.k14; omega)
    rw [Nat.add_sub_cancel' p.k3] at e
    exact e.symm
  rw [e3, fl_add p.lt hb q.lt (Nat.le_trans p.k14 (by decide)), fl_ofInt (by decide)]
  refine fl_div (by decide) q.lt (by decide) q.lt (Nat.le_trans p.k14 (by decide)) (by decide) (Nat.le_trans (Nat.succ_le_succ p.k14) (by decide)) ?_
  rw [Int.mul_assoc, Nat.add_zero, Int.pow_succ, Int.mul_comm 2 (2 ^ k)]
theorem run_flL : ∀ {gs : List Int} {n : Int} {k : Nat}, PartL n k → (∀ g ∈ gs, 0 ≤ g ∧ g ≤ 9) → k + gs.length ≤ 15 →
    gs.foldl (fun x g => stepF x g) (fl n k) = fl (runB n k gs).1 (runB n k gs).2 ∧ PartL (runB n k gs).1 (runB n k gs).2
  | [], n, k, p, _, _ => ⟨rfl, p⟩
  | g :: gs, n, k, p, hg, hk => by
    have h0 := hg g List.mem_cons_self
    have hr := fun q hq => hg q (List.mem_cons_of_mem g hq)
    rw [List.length_cons] at hk
    rw [List.foldl_cons]
    unfold runB
    by_cases e : g = 9
    · subst e
      rw [if_pos rfl, (stepL_9 p).1]
      exact run_flL (stepL_9 p).2 hr (by omega)
    · rw [if_neg e]
      have s := stepL_g p h0.1 (by omega) (by omega)
      rw [s.1]
      exact run_flL s.2 hr (by omega)
theorem run_mapL : ∀ {gs : List Int} {n : Int} {k : Nat}, 3 ≤ k → gs.length ≤ 5 → k + gs.length ≤ 15 →
    32 * ((runB n k gs).1 * 2 ^ (15 - (runB n k gs).2)) = (mapB gs).1 * (n * 2 ^ (15 - k)) + 2048 * (mapB gs).2
  | [], n, k, _, _, _ => by unfold runB mapB; simp
  | g :: gs, n, k, k3, h, hk => by
    rw [List.length_cons] at h hk
    unfold runB mapB
    by_cases e : g = 9
    · rw [if_pos e, if_pos e, run_mapL k3 (by omega) (by omega)]
      dsimp only
      have e2 : ((2 : Int) ^ k - n) * 2 ^ (15 - k) = 32768 - n * 2 ^ (15 - k) := by
        rw [Int.sub_mul, ← Int.pow_add, Nat.add_sub_cancel' (by omega)]; rfl
      rw [e2, Int.mul_sub, Int.neg_mul, Int.mul_add]
      generalize (mapB gs).1 * (n * 2 ^ (15 - k)) = y
      omega
    · rw [if_neg e, if_neg e, run_mapL (by omega) (by omega) (by omega)]
      dsimp only
      obtain ⟨c, ec⟩ := map_even (gs := gs) (by omega)
      have e3 : (2 : Int) ^ (5 - gs.length) = 2 * 2 ^ (4 - gs.length) := by
        rw [Int.mul_comm, ← Int.pow_succ]; congr 1; omega
      have e4 : (mapB gs).1 = 2 * (2 ^ (4 - gs.length) * c) := by rw [ec, e3, Int.mul_assoc]
      generalize 2 ^ (4 - gs.length) * c = A at e4
      have e5 : Int.fdiv (mapB gs).1 2 = A := by rw [e4, Int.fdiv_eq_ediv_of_nonneg _ (by decide), Int.mul_ediv_cancel_left _ (by decide)]
      rw [e5, e4]
      have e6 : (2 : Int) ^ (15 - k) = 2 * 2 ^ (15 - (k + 1)) := by rw [Int.mul_comm, ← Int.pow_succ]; congr 1; omega
      have e7 : (2 : Int) ^ (k - 3) * 2 ^ (15 - (k + 1)) = 2048 := by
        rw [← Int.pow_add, show k - 3 + (15 - (k + 1)) = 11 by omega]; rfl
      have e8 : (n + g * 2 ^ (k - 3)) * 2 ^ (15 - (k + 1)) = n * 2 ^ (15 - (k + 1)) + g * 2048 := by rw [Int.add_mul, Int.mul_assoc g, e7]
      rw [e8, e6]
      generalize (2 : Int) ^ (15 - (k + 1)) = T
      have e9 : 2 * A * (n * T + g * 2048) = 2 * (A * (n * T)) + 4096 * (g * A) := by
        rw [Int.mul_add, Int.mul_assoc, Int.mul_assoc 2 A (g * 2048), ← Int.mul_assoc A g, Int.mul_comm A g]; omega
      have e10 : A * (n * (2 * T)) = 2 * (A * (n * T)) := by rw [Int.mul_left_comm n 2 T, Int.mul_left_comm A 2]
      have e11 : g * (2 * A) = 2 * (g * A) := Int.mul_left_comm ..
      rw [e9, e10, e11]
      generalize A * (n * T) = u
      generalize g * A = v
      omega
/-- the light in the end -/
theorem end_light {gs : List Int} {n : Int} (p : PartL n 10) (hg : ∀ g ∈ gs, 0 ≤ g ∧ g ≤ 9) (h5 : gs.length ≤ 5) :
    gs.foldl (fun x g => stepF x g) (fl n 10) = fl ((mapB gs).1 * n + 64 * (mapB gs).2) 15 := by
  have r := run_flL p hg (by omega)
  have m := run_mapL (gs := gs) (n := n) (k := 10) (by decide) h5 (by omega)
  have e : (mapB gs).1 * n + 64 * (mapB gs).2 = (runB n 10 gs).1 * 2 ^ (15 - (runB n 10 gs).2) := by
    have e1 : (mapB gs).1 * (n * 2 ^ (15 - 10)) = 32 * ((mapB gs).1 * n) := by
      rw [← Int.mul_assoc, Int.mul_comm]; rfl
    rw [e1] at m
    generalize (mapB gs).1 * n = y at *
    omega
  have k14 := r.2.k14
  have q : PartL ((runB n 10 gs).1 * 2 ^ (15 - (runB n 10 gs).2)) 15 := by
    refine ⟨Int.mul_nonneg r.2.n0 (Int.le_of_lt (Int.pow_pos (by decide))), ?_, by decide, by decide⟩
    have := Int.mul_le_mul_of_nonneg_right r.2.n1 (show (0 : Int) ≤ 2 ^ (15 - (runB n 10 gs).2) from Int.le_of_lt (Int.pow_pos (by decide)))
    rwa [← Int.pow_add, Nat.add_sub_cancel' k14] at this
  rw [e]
  refine r.1.trans ?_
  have u := fl_up (a := (runB n 10 gs).1) (k := (runB n 10 gs).2) (j := 15 - (runB n 10 gs).2) q.lt (by omega)
  rw [Nat.add_sub_cancel' k14] at u
  exact u.symm
end
section
theorem clear_PlB5 : True := by k_with_none; trivial
open PySem
open Float64
noncomputable abbrev ep (L P c h : Int) : Int := L - P * fall c h
/-- a colour whose parts are L less P times the fall, at the place k (O stands for one) -/
structure GenP (k : Nat) (O L P h : Int) : Prop where
  hk : k ≤ 100
  two : (4611686018427387904 : UInt64) = fl (2 * O) k
  half : (4602678819172646912 : UInt64) = fl O (k + 1)
  one : ofInt 1 = fl O k
  O1 : O ≤ 20000
  h0 : 0 ≤ h
  h1 : h < 16
  p0 : 0 ≤ P
  lo : 0 ≤ L - P * 8
  hi : L ≤ O
section
variable {k : Nat} {O L P h : Int} (g : GenP k O L P h)
include g
theorem GenP.e0 (c : Int) : 0 ≤ ep L P c h ∧ ep L P c h ≤ L := by
  have f := fall_r (c := c) (h := h)
  have m := mul8 g.p0 f
  have := g.lo
  unfold ep
  generalize P * fall c h = x at *
  omega
theorem GenP.eb (c : Int) : (ep L P c h).natAbs < 2 ^ 50 := by
  have a := g.e0 c
  have := g.hi
  have := g.O1
  exact nn a.1 (by omega)
theorem GenP.Lb : L.natAbs < 2 ^ 50 := by
  have := g.hi
  have := g.O1
  have := g.lo
  have := g.p0
  exact nn (by omega) (by omega)
theorem GenP.Mb : (L - P * 8).natAbs < 2 ^ 50 := by
  have := g.hi
  have := g.O1
  have := g.lo
  have := g.p0
  exact nn (by omega) (by omega)
theorem gen_mx : max3F (fl (ep L P 0 h) k) (fl (ep L P 16 h) k) (fl (ep L P 32 h) k) = fl L k ∧ min3F (fl (ep L P 0 h) k) (fl (ep L P 16 h) k) (fl (ep L P 32 h) k) = fl (L - P * 8) k := by
  obtain ⟨f0, f1, f2, e0, e1, e2, b0, b1, b2, hz, h8, Y, hY, hm⟩ := falls g.h0 g.h1
  have k3 : k ≤ 1000 := Nat.le_trans g.hk (by decide)
  rw [max3_fl (u53 (g.eb 0)) (u53 (g.eb 16)) (u53 (g.eb 32)) k3, min3_fl (u53 (g.eb 0)) (u53 (g.eb 16)) (u53 (g.eb 32)) k3]
  unfold ep
  rw [e0, e1, e2]
  have m0 := mul8 g.p0 b0
  have m1 := mul8 g.p0 b1
  have m2 := mul8 g.p0 b2
  constructor
  · rw [mx3 m0.1 m1.1 m2.1 (by rcases hz with rfl | rfl | rfl <;> simp)]
  · rw [mn3 m0.2 m1.2 m2.2 (by rcases h8 with rfl | rfl | rfl <;> simp)]
theorem gen_hue (hp : P ≠ 0) : hueF (fl (ep L P 0 h) k) (fl (ep L P 16 h) k) (fl (ep L P 32 h) k) (fl L k) (fl (L - P * 8) k) = fl h 4 := by
  have n0 := g.eb 0
  have n1 := g.eb 16
  have n2 := g.eb 32
  obtain ⟨f0, f1, f2, e0, e1, e2, b0, b1, b2, hz, h8, Y, hY, hm⟩ := falls g.h0 g.h1
  unfold ep at *
  rw [e0] at n0 ⊢
  rw [e1] at n1 ⊢
  rw [e2] at n2 ⊢
  rw [hue_gen (f0 := f0) (f1 := f1) (f2 := f2) (Y := Y) g.hk n0 n1 n2 g.Lb g.Mb (lt8 hp g.p0) hh8 hh8 hh8 b0 b1 b2 ?_, hm]
  rw [← hY]
  have pe : ∀ f, (L - P * f = L) ↔ f = 0 := fun f => ⟨fun e => by
    have : P * f = 0 := by omega
    rcases Int.mul_eq_zero.mp this with q | q
    · exact absurd q hp
    · exact q, fun e => by rw [e, Int.mul_zero, Int.sub_zero]⟩
  simp only [pe]
theorem gen_eq : eqF (fl (L - P * 8) k) (fl L k) = decide (P = 0) := by
  rw [eq_fl (u53 g.Mb) (u53 g.Lb) (Nat.le_trans g.hk (by decide))]
  exact decide_eq_decide.mpr ⟨fun e => by omega, fun e => by omega⟩
theorem gen_sub : sub (fl L k) (fl (L - P * 8) k) = fl (P * 8) k := by
  rw [sub50 g.hk g.Lb g.Mb, Int.sub_sub_self]
theorem gen_add : add (fl L k) (fl (L - P * 8) k) = fl (2 * L - P * 8) k ∧ (2 * L - P * 8).natAbs < 2 ^ 50 ∧ 0 ≤ 2 * L - P * 8 := by
  have := g.hi
  have := g.O1
  have := g.lo
  have := g.p0
  have e : L + (L - P * 8) = 2 * L - P * 8 := by omega
  refine ⟨?_, nn (by omega) (by omega), by omega⟩
  rw [fl_add (u53 g.Lb) (u53 g.Mb) (nn (by omega) (by omega)) (Nat.le_trans g.hk (by decide)), e]
theorem gen_two : sub (sub 4611686018427387904 (fl L k)) (fl (L - P * 8) k) = fl (2 * O - (2 * L - P * 8)) k ∧ (2 * O - (2 * L - P * 8)).natAbs < 2 ^ 50 ∧ 0 ≤ 2 * O - (2 * L - P * 8) := by
  have := g.hi
  have := g.O1
  have := g.lo
  have := g.p0
  have k3 : k ≤ 1000 := Nat.le_trans g.hk (by decide)
  have e : 2 * O - L - (L - P * 8) = 2 * O - (2 * L - P * 8) := by omega
  refine ⟨?_, nn (by omega) (by omega), by omega⟩
  rw [g.two, fl_sub (nn (by omega) (by omega)) (u53 g.Lb) (nn (by omega) (by omega)) k3, fl_sub (nn (by omega) (by omega)) (u53 g.Mb) (nn (by omega) (by omega)) k3, e]
theorem gen_light : lightF (fl L k) (fl (L - P * 8) k) = fl (2 * L - P * 8) (k + 1) := by
  have a := gen_add g
  unfold lightF
  rw [a.1, lit2]
  refine fl_div (by decide) (u53 a.2.1) (by decide) (u53 a.2.1) (Nat.le_trans g.hk (by decide)) (by decide) (Nat.le_trans (Nat.succ_le_succ g.hk) (by decide)) ?_
  rw [Int.mul_assoc, Nat.add_zero, Int.pow_succ, Int.mul_comm 2 (2 ^ k)]
theorem gen_low : lowF (fl (2 * L - P * 8) (k + 1)) = decide (2 * L - P * 8 ≤ O) := by
  have a := gen_add g
  have := g.O1
  have := g.lo
  have := g.p0
  have := g.hi
  unfold lowF
  rw [g.half, fl_cmp (u53 a.2.1) (nn (by omega) (by omega)) (Nat.le_trans (Nat.succ_le_succ g.hk) (by decide))]
  rcases Int.lt_trichotomy (2 * L - P * 8) O with q | q | q
  · rw [Int.compare_eq_lt.mpr q, decide_eq_true (Int.le_of_lt q)]; rfl
  · rw [Int.compare_eq_eq.mpr q, decide_eq_true (Int.le_of_eq q)]; rfl
  · rw [Int.compare_eq_gt.mpr q, decide_eq_false (Int.not_le.mpr q)]; rfl
/-- what the division by the saturation's rule tells -/
theorem gen_hls : hlsF (fl (ep L P 0 h) k) (fl (ep L P 16 h) k) (fl (ep L P 32 h) k) =
    (if P = 0 then (0 : UInt64) else fl h 4, fl (2 * L - P * 8) (k + 1), if P = 0 then 0 else if 2 * L - P * 8 ≤ O then div (fl (P * 8) k) (fl (2 * L - P * 8) k) else div (fl (P * 8) k) (fl (2 * O - (2 * L - P * 8)) k)) := by
  unfold hlsF
  simp only [(gen_mx g).1, (gen_mx g).2, gen_eq g, decide_eq_true_eq, gen_light g, gen_low g, gen_sub g, (gen_add g).1, (gen_two g).1]
  by_cases hp : P = 0
  · simp only [hp, if_true]
  · simp only [hp, if_false, gen_hue g hp]
theorem gen_hsv : hsvF (fl (ep L P 0 h) k) (fl (ep L P 16 h) k) (fl (ep L P 32 h) k) =
    (if P = 0 then (0 : UInt64) else fl h 4, if P = 0 then 0 else div (fl (P * 8) k) (fl L k), fl L k) := by
  unfold hsvF
  simp only [(gen_mx g).1, (gen_mx g).2, gen_eq g, decide_eq_true_eq, gen_sub g]
  by_cases hp : P = 0
  · simp only [hp, if_true]
  · simp only [hp, if_false, gen_hue g hp]
theorem gen_nz (hp : P ≠ 0) : isZero (fl (P * 8) k) = false ∧ isZero (fl (2 * L - P * 8) k) = false ∧ isZero (fl (2 * O - (2 * L - P * 8)) k) = false ∧ isZero (fl L k) = false := by
  have k3 : k ≤ 1000 := Nat.le_trans g.hk (by decide)
  have := g.hi
  have := g.O1
  have := g.lo
  have := g.p0
  refine ⟨?_, ?_, ?_, ?_⟩
  · rw [fl_isZero (nn (by omega) (by omega)) k3]; exact decide_eq_false (by omega)
  · rw [fl_isZero (nn (by omega) (by omega)) k3]; exact decide_eq_false (by omega)
  · rw [fl_isZero (nn (by omega) (by omega)) k3]; exact decide_eq_false (by omega)
  · rw [fl_isZero (u53 g.Lb) k3]; exact decide_eq_false (by omega)
theorem gen_sat (hp : P ≠ 0) : ∃ t, 0 < t ∧ t < infMag ∧ (if 2 * L - P * 8 ≤ O then div (fl (P * 8) k) (fl (2 * L - P * 8) k) else div (fl (P * 8) k) (fl (2 * O - (2 * L - P * 8)) k)) = pack false t := by
  have := g.hi
  have := g.O1
  have := g.lo
  have := g.p0
  split
  · exact div_fin (by omega) (by omega) (nn (by omega) (by omega)) (Nat.le_trans g.hk (by decide))
  · exact div_fin (by omega) (by omega) (nn (by omega) (by omega)) (Nat.le_trans g.hk (by decide))
theorem gen_sat2 (hp : P ≠ 0) : ∃ t, 0 < t ∧ t < infMag ∧ div (fl (P * 8) k) (fl L k) = pack false t := by
  have := g.hi
  have := g.O1
  have := g.lo
  have := g.p0
  exact div_fin (by omega) (by omega) (nn (by omega) (by omega)) (Nat.le_trans g.hk (by decide))
theorem GenP.other : GenP k O (O - L + P * 8) P ((h + 8) % 16) :=
  ⟨g.hk, g.two, g.half, g.one, g.O1, by omega, by omega, g.p0, by have := g.hi; omega, by have := g.lo; omega⟩
end
theorem fall_turn : ∀ n : Fin 16, fall 0 ((n.val + 8) % 16 : Int) = 8 - fall 0 n.val ∧ fall 16 ((n.val + 8) % 16 : Int) = 8 - fall 16 n.val ∧ fall 32 ((n.val + 8) % 16 : Int) = 8 - fall 32 n.val := by decide +kernel
theorem fall_turned {h c : Int} (h0 : 0 ≤ h) (h1 : h < 16) (hc : c = 0 ∨ c = 16 ∨ c = 32) : fall c ((h + 8) % 16) = 8 - fall c h := by
  obtain ⟨n, rfl⟩ : ∃ n : Nat, h = n := ⟨h.toNat, by omega⟩
  have t := fall_turn ⟨n, by omega⟩
  rcases hc with rfl | rfl | rfl
  · exact t.1
  · exact t.2.1
  · exact t.2.2
theorem ep_other {k : Nat} {O L P h c : Int} (g : GenP k O L P h) (hc : c = 0 ∨ c = 16 ∨ c = 32) : sub (ofInt 1) (fl (ep L P c h) k) = fl (ep (O - L + P * 8) P c ((h + 8) % 16)) k := by
  have a := g.e0 c
  have := g.hi
  have := g.O1
  rw [g.one, fl_sub (nn (by have := g.lo; have := g.p0; omega) (by omega)) (u53 (g.eb c)) (nn (by omega) (by omega)) (Nat.le_trans g.hk (by decide))]
  congr 1
  unfold ep
  rw [fall_turned g.h0 g.h1 hc, Int.mul_sub]
  generalize P * fall c h = x
  omega
end
section
theorem clear_MapB : True := by k_with_none; trivial
open PySem PySem.W PyProof.Rows
set_option maxRecDepth 100000
set_option maxHeartbeats 8000000
theorem fillM : True := by
  have h2 : (hd.heap_1 = hd.heap_1 ∧ PySem.Challenge.rw_mq0203_02 = PySem.Challenge.rw_mq0203_02) → True := fun _ => trivial
  apply h2
  k_fill
  exact ⟨rfl, rfl⟩
set_option pp.deepTerms false
set_option pp.deepTerms.threshold 6
theorem lst_of {h₀ h : Heap} {L a : Addr} {its : Array Value} {n : Nat} {news : List (Addr × Obj)} (N : News h₀ L h news) (m : (a, listOf its n) ∈ news) : h.IsList a its := ⟨_, (N _ m).1, rfl, n, rfl⟩
theorem lyne_MapB_1 : True := by
  k_with "k_dflt_done!" => first | with_reducible assumption | with_reducible exact List.mem_cons_self | (with_reducible refine List.mem_cons_of_mem _ ?_; k_dflt done)
  trivial
theorem line_MapB_2 : True := by
  k_with "subscriptTail Name Slice ref ref!" => (k_here; (with_reducible show wpAny _ _ (subscriptTail _ (PySem.Expr.Slice none none (some _) _) (Value.ref _) (Value.ref _)) _ _ _); k_dflt (refine' krv_ints ?F ?N ?l ?k ?i ?_ ?s ?t ?z; (case F => k_asm); (case N => k_asm); (case l => exact lst_of (by k_asm) (by k_dflt done)); (case k => exact IsPart.int _ _); (case i => exact hI); (case s => with_unfolding_all rfl); (case t => kmk_pure); (case z => exact hzM)); intro _ _ _ _ _ lt7 _ _; (try k_sweep))
  trivial
theorem line_MapB_3 : True := by
  k_with "exec For Name Subscript cons nil!" => (k_here; (with_unfolding_all refine' For_invVF ?kF ?k1 ?k2 ?_; (case kF => k_asm); (case k1 => exact rfl); (case k2 => exact rfl); k_whole))
  trivial
/-- the loop of _law_map: what is done of the list, read from its end -/
noncomputable def JM (m0 : Str → Option Value) (lp : Addr × Obj) (rest : List (Addr × Obj)) (gs : List Int) (r : List Value) (m' : Str → Option Value) (n' : List (Addr × Obj)) : Prop :=
  ∃ (dn td : List Int) (o : Option Value) (t1 t2 : Tok), IntsAre r td ∧ dn.reverse ++ td = gs.reverse ∧ n' = lp :: rest ∧
    m' = fun y => if y = Str.ofString "shift" then some (.int (mapB dn).2 t2) else if y = Str.ofString "scale" then some (.int (mapB dn).1 t1) else if y = Str.ofString "grey" then o else m0 y
theorem jm_start {m0 : Str → Option Value} {lp : Addr × Obj} {rest : List (Addr × Obj)} {gs : List Int} {ws : List Value} {t1 t2 : Tok} (hI : IntsAre ws gs.reverse) :
    JM m0 lp rest gs ws (fun y => if y = Str.ofString "shift" then some (.int 0 t2) else if y = Str.ofString "scale" then some (.int 32 t1) else m0 y) (lp :: rest) := by
  refine ⟨[], gs.reverse, m0 (Str.ofString "grey"), t1, t2, hI, rfl, rfl, ?_⟩
  funext y
  by_cases h : y = Str.ofString "grey"
  · rw [h]; rfl
  · rw [if_neg h]; rfl
theorem jm_map {m0 : Str → Option Value} {a b c : Str} (hab : a ≠ b) {p1 p2 p3 q1 q2 q3 : Option Value} :
    (fun y => if y = b then p1 else if y = a then p2 else if y = c then p3 else if y = a then q2 else if y = b then q1 else if y = c then q3 else m0 y) = fun y => if y = a then p2 else if y = b then p1 else if y = c then p3 else m0 y := by
  funext y
  by_cases h1 : y = a
  · have h2 : y ≠ b := fun e => hab (h1 ▸ e)
    rw [if_neg h2, if_pos h1, if_pos h1]
  · by_cases h2 : y = b
    · rw [if_pos h2, if_neg h1, if_pos h2]
    · by_cases h3 : y = c
      · rw [if_neg h2, if_neg h1, if_pos h3, if_neg h1, if_neg h2, if_pos h3]
      · rw [if_neg h2, if_neg h1, if_neg h3, if_neg h1, if_neg h2, if_neg h3, if_neg h1, if_neg h2, if_neg h3]
theorem jm_next {m0 : Str → Option Value} {lp : Addr × Obj} {rest : List (Addr × Obj)} {gs dn td : List Int} {g : Int} {r : List Value} {o : Option Value} {t u1 u2 v1 v2 : Tok} {A B : Int} (e1 : IntsAre r td) (e2 : dn.reverse ++ g :: td = gs.reverse) (hA : (mapB (g :: dn)).1 = A) (hB : (mapB (g :: dn)).2 = B) :
    JM m0 lp rest gs r (fun y => if y = Str.ofString "scale" then some (.int A v1) else if y = Str.ofString "shift" then some (.int B v2) else if y = Str.ofString "grey" then some (.int g t) else if y = Str.ofString "shift" then some (.int (mapB dn).2 u2) else if y = Str.ofString "scale" then some (.int (mapB dn).1 u1) else if y = Str.ofString "grey" then o else m0 y) (lp :: rest) := by
  subst hA hB
  refine ⟨g :: dn, td, some (.int g t), v1, v2, e1, ?_, rfl, ?_⟩
  · rw [List.reverse_cons, List.append_assoc]; exact e2
  · exact jm_map (by decide)
theorem map_p9 {g : Int} {gs : List Int} (h : g = 9) : (mapB (g :: gs)).1 = -(mapB gs).1 ∧ (mapB (g :: gs)).2 = (mapB gs).2 + 16 * (mapB gs).1 := by
  have e : mapB (g :: gs) = (-(mapB gs).1, (mapB gs).2 + 16 * (mapB gs).1) := if_pos h
  rw [e]; exact ⟨rfl, rfl⟩
theorem map_pg {g : Int} {gs : List Int} (h : ¬ g = 9) : (mapB (g :: gs)).1 = Int.fdiv (mapB gs).1 2 ∧ (mapB (g :: gs)).2 = (mapB gs).2 + g * (mapB gs).1 := by
  have e : mapB (g :: gs) = (Int.fdiv (mapB gs).1 2, (mapB gs).2 + g * (mapB gs).1) := if_neg h
  rw [e]; exact ⟨rfl, rfl⟩
theorem map_bound : ∀ {gs : List Int}, -32 ≤ (mapB gs).1 ∧ (mapB gs).1 ≤ 32
  | [] => by decide
  | g :: gs => by
    have h := map_bound (gs := gs)
    unfold mapB
    split
    · dsimp only; omega
    · dsimp only; rw [Int.fdiv_eq_ediv_of_nonneg _ (by decide)]; omega
theorem line_MapB_1 : True := by
  k_with "pyIter ref!" => (refine stp ?_)
  trivial
theorem c_map {w : World} {p : Program} {loose : List Str} {mean : ExcName → Option Value} {mg mb : Str → Option Value} {dp un : Nat} {gd : Option (List Code)} {cn : Str} {cs : Scope} {a : Addr} {ccd : Value} {cl : List (Str × Addr)} {outer : List Env} {A₀ : Around} {base h₀ : Heap} {L : Addr} {m : Str → Option Value} {news : List (Addr × Obj)} {s : Shared} {Q E : Value → Shared → Prop} {GL : Addr} {vs : List Value} {gs : List Int} {n : Nat}
    (B : Below A₀ base outer h₀) (F : Fr h₀ L s.heap m) (X : (hd.heap_1 w.params).In h₀) (N : News h₀ L s.heap news) (mL : (GL, listOf vs.toArray n) ∈ news) (hI : IntsAre vs gs) (T : Top p loose mean mg mb h₀) (hk : cs.kind = .function) (h5 : gs.length ≤ 5) (hg : ∀ g ∈ gs, 0 ≤ g ∧ g ≤ 9) (hdp : dp + 1 < recursionLimit) (hun : un + 8 < cLine)
    (hret : ∀ (D : Addr) (t1 t2 : Tok) (h' : Heap) (tk' : Nat), Fr h₀ L h' m → News h₀ L h' ((D, { cls := .type "tuple", data := .seq #[.int (mapB gs).1 t1, .int (mapB gs).2 t2] }) :: news) → (∀ q ∈ news, q.1 < D) → Q (.ref D) { s with heap := h', toks := tk' }) :
    wpAny (model PySem.Challenge.rw_mq0203_02.prog w) (ktrTop dp un gd cn cs L a ccd cl outer) (call (.ref 70) [.ref GL]) Q E s := by
  have hzM : vs.toArray.size ≤ sizeLine := by rw [List.size_toArray, hI.length, sizeLine_eq]; omega
  refine wpAny_call ?_
  k_dflt cell_enter
  k_steps
  rename_i hx0 D ws h2 F2 N2 hI2 hC2
  unfold Stp
  refine iter_listUnr (by rfl) F2 N2 List.mem_cons_self rfl rfl ?_
  intro I hIp
  refine list_rest (JM _ (D, listOf ws.toArray 0) news gs) ?step ?zero _ _ _ (jm_start hI2)
  case step =>
    intro v0 r m1 n1 j it h1 tk1 hc F3 N4
    obtain ⟨dn, td, o, u1, u2, e1, e2, rfl, rfl⟩ := j
    cases e1 with
    | cons e0 =>
    dsimp only at F3
    have hb := map_bound (gs := dn)
    have he := hg e0 (List.mem_reverse.mp (e2 ▸ List.mem_append_right _ List.mem_cons_self))
    obtain ⟨b1, b2⟩ := hb
    obtain ⟨b3, b4⟩ := he
    have off : ∀ p ∈ (D, listOf ws.toArray 0) :: news, p.1 ≠ I := fun p hp => Nat.ne_of_lt (hIp p hp)
    clear N2 F2 hret F N hg
    k_steps
    · rename_i F9 N9
      exact unr_end F9 N9 off ⟨List.mem_cons_self, jm_next (by assumption) e2 (map_p9 (by assumption)).1 (map_p9 (by assumption)).2⟩
    · rename_i F9 N9
      exact unr_end F9 N9 off ⟨List.mem_cons_self, jm_next (by assumption) e2 (map_pg (by assumption)).1 (map_pg (by assumption)).2⟩
  case zero =>
    intro m1 n1 j h1 tk1 F3 N4
    obtain ⟨dn, td, o, u1, u2, e1, e2, rfl, rfl⟩ := j
    cases e1
    rw [List.append_nil] at e2
    have e3 := List.reverse_inj.mp e2
    subst e3
    dsimp only at F3
    clear N2 F2
    k_steps
    exact hret _ _ _ _ _ (by k_asm) (News.perm (by k_asm) fun q hq => by
      rcases List.mem_cons.mp hq with rfl | hq
      · exact List.mem_cons_self
      · exact List.mem_cons_of_mem _ (List.mem_cons_of_mem _ hq)) (lt_all (And.right (by with_reducible assumption)))
end
section
theorem clear_MaxL : True := by k_with_none; trivial
open PySem PySem.W PyProof.Rows PySem.Flt
section
variable {prog : Program} {w : World} {A : Around} {E : Value → Shared → Prop} {s : Shared} {Q : Value → Shared → Prop} {l : Addr}
theorem max3_lst {a b c : Value} (hh : A.handled = none) (hl : s.heap.IsList l #[a, b, c]) (ha : NumV a) (hb : NumV b) (hc : NumV c)
    (h : ∀ h' tk, (∀ d o, s.heap.get? d = some o → h'.get? d = some o) → Q (if ltV (if ltV a b then b else a) c then c else (if ltV a b then b else a)) { s with heap := h', toks := tk }) :
    wpAny (model prog w) A (call (.builtin "max") [.ref l]) Q E s := by
  refine call_max_walk (wpAny_pyIter_list hl ?_)
  have hlt : l < s.heap.objs.size := by obtain ⟨o, e, _⟩ := hl; exact Heap.lt_size e
  refine ⟨_, [_, l], [_], _, _, _, _, rfl, Walks.list (A := A.in1) hh s.heap.objs.size l (Nat.ne_of_lt hlt) #[a, b, c],
    ⟨⟨_, Heap.get?_push_size _ rfl, rfl, rfl⟩, hl.push _⟩, fun d hd => ?_, by simp, cmpOf_gt #[a, b, c] (by simp [ha, hb, hc]), fun v h' tk hP hk => ?_⟩
  · show d < (s.heap.push _).objs.size
    rw [Heap.size_push]
    rcases List.mem_cons.mp hd with rfl | hd
    · exact Nat.lt_succ_self _
    · rcases List.mem_cons.mp hd with rfl | hd
      · exact Nat.lt_succ_of_lt hlt
      · cases hd
  · have hold : ∀ d o, s.heap.get? d = some o → h'.get? d = some o := fun d o e => by
      refine hk d o (fun hm => ?_) (Heap.get?_push_of_some _ e)
      rcases List.mem_cons.mp hm with e1 | hm
      · have := Heap.lt_size e; rw [e1] at this; exact Nat.lt_irrefl _ this
      · cases hm
    have := h h' tk hold
    have hv : v = if ltV (if ltV a b then b else a) c then c else (if ltV a b then b else a) := by
      cases h1 : ltV a b with
      | true =>
        cases h2 : ltV b c with
        | true => simp [argBest, h1, h2] at hP ⊢; simp [hP]
        | false => simp [argBest, h1, h2] at hP ⊢; simp [hP]
      | false =>
        cases h2 : ltV a c with
        | true => simp [argBest, h1, h2] at hP ⊢; simp [hP]
        | false => simp [argBest, h1, h2] at hP ⊢; simp [hP]
    rw [hv]; exact this
theorem min3_lst {a b c : Value} (hh : A.handled = none) (hl : s.heap.IsList l #[a, b, c]) (ha : NumV a) (hb : NumV b) (hc : NumV c)
    (h : ∀ h' tk, (∀ d o, s.heap.get? d = some o → h'.get? d = some o) → Q (if ltV c (if ltV b a then b else a) then c else (if ltV b a then b else a)) { s with heap := h', toks := tk }) :
    wpAny (model prog w) A (call (.builtin "min") [.ref l]) Q E s := by
  refine call_min_walk (wpAny_pyIter_list hl ?_)
  have hlt : l < s.heap.objs.size := by obtain ⟨o, e, _⟩ := hl; exact Heap.lt_size e
  refine ⟨_, [_, l], [_], _, _, _, _, rfl, Walks.list (A := A.in1) hh s.heap.objs.size l (Nat.ne_of_lt hlt) #[a, b, c],
    ⟨⟨_, Heap.get?_push_size _ rfl, rfl, rfl⟩, hl.push _⟩, fun d hd => ?_, by simp, cmpOf_lt #[a, b, c] (by simp [ha, hb, hc]), fun v h' tk hP hk => ?_⟩
  · show d < (s.heap.push _).objs.size
    rw [Heap.size_push]
    rcases List.mem_cons.mp hd with rfl | hd
    · exact Nat.lt_succ_self _
    · rcases List.mem_cons.mp hd with rfl | hd
      · exact Nat.lt_succ_of_lt hlt
      · cases hd
  · have hold : ∀ d o, s.heap.get? d = some o → h'.get? d = some o := fun d o e => by
      refine hk d o (fun hm => ?_) (Heap.get?_push_of_some _ e)
      rcases List.mem_cons.mp hm with e1 | hm
      · have := Heap.lt_size e; rw [e1] at this; exact Nat.lt_irrefl _ this
      · cases hm
    have := h h' tk hold
    have hv : v = if ltV c (if ltV b a then b else a) then c else (if ltV b a then b else a) := by
      cases h1 : ltV b a with
      | true =>
        cases h2 : ltV c b with
        | true => simp [argBest, h1, h2] at hP ⊢; simp [hP]
        | false => simp [argBest, h1, h2] at hP ⊢; simp [hP]
      | false =>
        cases h2 : ltV c a with
        | true => simp [argBest, h1, h2] at hP ⊢; simp [hP]
        | false => simp [argBest, h1, h2] at hP ⊢; simp [hP]
    rw [hv]; exact this
variable {x y z : UInt64} {t u v : Tok} {h₀ : Heap} {L : Addr} {m : Str → Option Value} {news : List (Addr × Obj)} {n : Nat}
theorem max3_lf (p1 : @LT.lt Nat _ 0 t) (p2 : @LT.lt Nat _ 0 u) (p3 : @LT.lt Nat _ 0 v) (hh : A.handled = none) (F : Fr h₀ L s.heap m) (N : News h₀ L s.heap news) (hm : (l, listOf [.float x t, .float y u, .float z v].toArray n) ∈ news)
    (h : ∀ h' tk v, @LT.lt Nat _ 0 v → Fr h₀ L h' m → News h₀ L h' news → Q (.float (max3F x y z) v) { s with heap := h', toks := tk }) :
    wpAny (model prog w) A (call (.builtin "max") [.ref l]) Q E s := by
  refine max3_lst hh ⟨_, (N _ hm).1, rfl, n, rfl⟩ (.float x t) (.float y u) (.float z v) fun h' tk kp => ?_
  have q := fun tok po => h h' tk tok po (F.grownK kp) (N.grown kp)
  unfold max3F max2F at q
  rw [lt_ff x y]
  by_cases h1 : (Float64.cmp x y == some .lt) = true
  · simp only [if_pos h1] at q ⊢
    rw [lt_ff y z]
    by_cases h2 : (Float64.cmp y z == some .lt) = true
    · simp only [if_pos h2] at q ⊢; exact q v p3
    · simp only [if_neg h2] at q ⊢; exact q u p2
  · simp only [if_neg h1] at q ⊢
    rw [lt_ff x z]
    by_cases h2 : (Float64.cmp x z == some .lt) = true
    · simp only [if_pos h2] at q ⊢; exact q v p3
    · simp only [if_neg h2] at q ⊢; exact q t p1
theorem min3_lf (hh : A.handled = none) (F : Fr h₀ L s.heap m) (N : News h₀ L s.heap news) (hm : (l, listOf [.float x t, .float y u, .float z v].toArray n) ∈ news)
    (h : ∀ h' tk v, Fr h₀ L h' m → News h₀ L h' news → Q (.float (min3F x y z) v) { s with heap := h', toks := tk }) :
    wpAny (model prog w) A (call (.builtin "min") [.ref l]) Q E s := by
  refine min3_lst hh ⟨_, (N _ hm).1, rfl, n, rfl⟩ (.float x t) (.float y u) (.float z v) fun h' tk kp => ?_
  have q := fun tok => h h' tk tok (F.grownK kp) (N.grown kp)
  unfold min3F min2F at q
  rw [lt_ff y x]
  by_cases h1 : (Float64.cmp y x == some .lt) = true
  · simp only [if_pos h1] at q ⊢
    rw [lt_ff z y]
    by_cases h2 : (Float64.cmp z y == some .lt) = true
    · simp only [if_pos h2] at q ⊢; exact q v
    · simp only [if_neg h2] at q ⊢; exact q u
  · simp only [if_neg h1] at q ⊢
    rw [lt_ff z x]
    by_cases h2 : (Float64.cmp z x == some .lt) = true
    · simp only [if_pos h2] at q ⊢; exact q v
    · simp only [if_neg h2] at q ⊢; exact q t
end
end
section
theorem clear_DueB : True := by k_with_none; trivial
open PySem PySem.W PyProof.Rows
set_option maxRecDepth 100000
set_option maxHeartbeats 8000000
theorem fillD : True := by
  have h2 : (hd.heap_1 = hd.heap_1 ∧ PySem.Challenge.rw_mq0203_02 = PySem.Challenge.rw_mq0203_02) → True := fun _ => trivial
  apply h2
  k_fill
  exact ⟨rfl, rfl⟩
set_option pp.deepTerms false
set_option pp.deepTerms.threshold 6
/-- one part told: its corner, and its float's token -/
noncomputable abbrev cpartG (pf : Int → UInt64) (q : Int × Tok) : Value := .float (pf q.1) q.2
noncomputable def CJ (m0 : Str → Option Value) (pf : Int → UInt64) (lc lp I : Addr) (lo : Obj) (rest : List (Addr × Obj)) (r : List Value) (m' : Str → Option Value) (n' : List (Addr × Obj)) : Prop :=
  ∃ (dn td : List (Int × Tok)) (nn : Nat) (o1 o2 o3 : Option Value), r = td.map (fun q => Value.int q.1 q.2) ∧ dn.map (·.1) ++ td.map (·.1) = [0, 16, 32] ∧ (∀ q ∈ dn, @LT.lt Nat _ 0 q.2) ∧
    n' = (lc, lo) :: (lp, listOf (dn.map (cpartG pf)).toArray nn) :: rest ∧ m' = fun y => if y = Str.ofString "fall" then o1 else if y = Str.ofString "way" then o2 else if y = Str.ofString "corner" then o3 else m0 y
theorem cc_start {m0 : Str → Option Value} {pf : Int → UInt64} {lc lp I : Addr} {lo : Obj} {rest : List (Addr × Obj)} {ta tb tc : Tok} : CJ m0 pf lc lp I lo rest [.int 0 ta, .int 16 tb, .int 32 tc] m0 ((lc, lo) :: (lp, listOf ([] : List Value).toArray 0) :: rest) := by
  obtain ⟨o1, o2, o3, e⟩ := three_self (m0 := m0) (a := Str.ofString "fall") (b := Str.ofString "way") (c := Str.ofString "corner")
  exact ⟨[], [(0, ta), (16, tb), (32, tc)], 0, o1, o2, o3, rfl, rfl, (fun _ h => nomatch h), rfl, e⟩
theorem cc_next {m0 : Str → Option Value} {pf : Int → UInt64} {lc lp I : Addr} {lo : Obj} {rest : List (Addr × Obj)} {dn td : List (Int × Tok)} {nn : Nat} {c : Int} {tc tk : Tok} {o1 o2 o3 p1 p2 : Option Value} (e2 : dn.map (·.1) ++ ((c, tc) :: td).map (·.1) = [0, 16, 32]) (e3 : ∀ q ∈ dn, @LT.lt Nat _ 0 q.2) (ht : @LT.lt Nat _ 0 tk) :
    CJ m0 pf lc lp I lo rest (td.map fun q => Value.int q.1 q.2) (fun y => if y = Str.ofString "fall" then p1 else if y = Str.ofString "way" then p2 else if y = Str.ofString "corner" then some (.int c tc) else if y = Str.ofString "fall" then o1 else if y = Str.ofString "way" then o2 else if y = Str.ofString "corner" then o3 else m0 y)
      ((lc, lo) :: (lp, listOf ((dn.map (cpartG pf)).toArray.push (.float (pf c) tk)) (nn + 1)) :: rest) := by
  refine ⟨dn ++ [(c, tk)], td, nn + 1, p1, p2, some (.int c tc), rfl, ?_, ?_, ?_, three_again⟩
  · rw [← e2, List.map_append, List.append_assoc]; rfl
  · intro q hq
    rcases List.mem_append.mp hq with hq | hq
    · exact e3 q hq
    · rw [List.mem_singleton.mp hq]; exact ht
  · rw [List.map_append]; simp
theorem dn3 {dn : List (Int × Tok)} (e : dn.map (·.1) = [0, 16, 32]) : ∃ a b c, dn = [(0, a), (16, b), (32, c)] := by
  obtain ⟨⟨x, a⟩, l1, rfl, rfl, e1⟩ := List.map_eq_cons_iff.mp e
  obtain ⟨⟨y, b⟩, l2, rfl, rfl, e2⟩ := List.map_eq_cons_iff.mp e1
  obtain ⟨⟨z, c⟩, l3, rfl, rfl, e3⟩ := List.map_eq_cons_iff.mp e2
  rw [List.map_eq_nil_iff.mp e3]
  exact ⟨a, b, c, rfl⟩
section
variable {c hue sh lv sc sf : Int} (v3 : 0 ≤ sh) (v4 : sh ≤ 8) (v5 : 0 ≤ lv) (v6 : lv ≤ 8) (v7 : -32 ≤ sc) (v8 : sc ≤ 32) (v9 : -10000 ≤ sf) (v10 : sf ≤ 10000)
include v3 v4 v5 v6 v7 v8 v9 v10
theorem due_lt : (sc * partP c hue sh lv + 32 * sf).natAbs < 2 ^ 53 := by
  have q := part_b (c := c) (h := hue) v3 v4 v5 v6
  have q0 := q.n0
  have q1 : partP c hue sh lv ≤ 512 := q.n1
  have a := Int.mul_le_mul_of_nonneg_right v8 q0
  have b := Int.mul_le_mul_of_nonneg_right v7 q0
  generalize sc * partP c hue sh lv = y at *
  omega
theorem due_div : Float64.ofFrac (decide (sc * lv * (64 - sh * min (max (min (Int.fmod (3 * hue - c) 48) (48 - Int.fmod (3 * hue - c) 48) - 8) 0) 8) + 32 * sf < 0) != decide ((16384 : Int) < 0)) (sc * lv * (64 - sh * min (max (min (Int.fmod (3 * hue - c) 48) (48 - Int.fmod (3 * hue - c) 48) - 8) 0) 8) + 32 * sf).natAbs (16384 : Int).natAbs = fl (sc * partP c hue sh lv + 32 * sf) 14 := by
  have e := div_k (n := sc * partP c hue sh lv + 32 * sf) (d := 16384) (k := 14) (due_lt v3 v4 v5 v6 v7 v8 v9 v10) (by decide) (by decide)
  have e2 : sc * partP c hue sh lv = sc * lv * (64 - sh * min (max (min (Int.fmod (3 * hue - c) 48) (48 - Int.fmod (3 * hue - c) 48) - 8) 0) 8) := (Int.mul_assoc ..).symm
  rw [← e2]; exact e
theorem due_no : ¬ Float64.isInf (Float64.ofFrac (decide (sc * lv * (64 - sh * min (max (min (Int.fmod (3 * hue - c) 48) (48 - Int.fmod (3 * hue - c) 48) - 8) 0) 8) + 32 * sf < 0) != decide ((16384 : Int) < 0)) (sc * lv * (64 - sh * min (max (min (Int.fmod (3 * hue - c) 48) (48 - Int.fmod (3 * hue - c) 48) - 8) 0) 8) + 32 * sf).natAbs (16384 : Int).natAbs) = true := by
  rw [due_div v3 v4 v5 v6 v7 v8 v9 v10, fl_isInf (due_lt v3 v4 v5 v6 v7 v8 v9 v10) (by decide)]; exact Bool.false_ne_true
end
theorem eq16 (x : Int) : Float64.ofFrac (decide (Int.fmod x 16 < 0) != decide ((16 : Int) < 0)) (Int.fmod x 16).natAbs (16 : Int).natAbs = fl (x % 16) 4 := by
  rw [Int.fmod_eq_emod_of_nonneg x (by decide)]
  have a := Int.emod_nonneg x (show (16 : Int) ≠ 0 by decide)
  have b := Int.emod_lt_of_pos x (show (0 : Int) < 16 by decide)
  exact div_k (n := x % 16) (d := 16) (k := 4) (by omega) (by decide) (by decide)
theorem no16 (x : Int) : ¬ Float64.isInf (Float64.ofFrac (decide (Int.fmod x 16 < 0) != decide ((16 : Int) < 0)) (Int.fmod x 16).natAbs (16 : Int).natAbs) = true := by
  have a := Int.emod_nonneg x (show (16 : Int) ≠ 0 by decide)
  have b := Int.emod_lt_of_pos x (show (0 : Int) < 16 by decide)
  rw [eq16, fl_isInf (by omega) (by decide)]; exact Bool.false_ne_true
/-- a hue of the end: nought (an int) of a grey, else the sixteenths as a float -/
noncomputable def HueV (sh lv y : Int) (v : Value) : Prop := (sh * lv = 0 ∧ ∃ t, v = .int 0 t) ∨ (sh * lv ≠ 0 ∧ ∃ t, @LT.lt Nat _ 0 t ∧ v = .float (fl (y % 16) 4) t)
theorem mul_nz {a b : Int} (h : a ≠ 0) (k : b ≠ 0) : a * b ≠ 0 := Int.mul_ne_zero h k
theorem hv0 {sh lv y : Int} {t : Tok} (e : sh * lv = 0) : HueV sh lv y (.int 0 t) := .inl ⟨e, t, rfl⟩
theorem hv1 {sh lv y x : Int} {t : Tok} (a : sh ≠ 0) (b : lv ≠ 0) (e : y = x) (ht : @LT.lt Nat _ 0 t) : HueV sh lv y (.float (Float64.ofFrac (decide (Int.fmod x 16 < 0) != decide ((16 : Int) < 0)) (Int.fmod x 16).natAbs (16 : Int).natAbs) t) := .inr ⟨mul_nz a b, t, ht, by rw [eq16, e]⟩
noncomputable abbrev tup2 (x y : Value) : Obj := { cls := .type "tuple", data := .seq #[x, y] }
theorem dropD {q1 q2 : Addr × Obj} {a b c d e f : Addr × Obj} {news : List (Addr × Obj)} : ∀ p ∈ a :: b :: c :: d :: e :: f :: news, p ∈ a :: b :: c :: d :: e :: f :: q1 :: q2 :: news := fun p hp => by
  simp only [List.mem_cons] at hp ⊢
  rcases hp with h | h | h | h | h | h | h
  · exact .inl h
  · exact .inr (.inl h)
  · exact .inr (.inr (.inl h))
  · exact .inr (.inr (.inr (.inl h)))
  · exact .inr (.inr (.inr (.inr (.inl h))))
  · exact .inr (.inr (.inr (.inr (.inr (.inl h)))))
  · exact .inr (.inr (.inr (.inr (.inr (.inr (.inr (.inr h)))))))
theorem lyne_DueB_0 : True := by
  k_with "k_dflt_done!" => first | with_reducible assumption | with_reducible exact List.mem_cons_self | (with_reducible refine List.mem_cons_of_mem _ ?_; k_dflt done)
  trivial
theorem lyne_DueB_1 : True := by
  k_with "k_all!" => (refine neAll ?_; (first | with_reducible assumption | exact allLt_of (by with_reducible assumption) | exact And.right (by with_reducible assumption) | exact And.right (And.right (by with_reducible assumption)) | exact And.right (And.right (And.right (by with_reducible assumption))) | exact And.right (And.right (And.right (And.right (by with_reducible assumption)))) | exact And.right (And.right (And.right (And.right (And.right (by with_reducible assumption)))))))
  trivial
theorem line_DueB_1 : True := by
  k_with "execs cons!" => (k_here; (with_reducible refine wpAny_gen1 ?_); intro _ _)
  trivial
theorem line_DueB_2 : True := by
  k_with "execs nil!" => (k_here; (with_reducible refine wpAny_gen1 ?_); intro _ _)
  trivial
theorem line_DueB_3 : True := by
  k_with "pyIter ref!" => (refine stp ?_)
  trivial
theorem line_DueB_4 : True := by
  k_with "call builtin:list.append!" => (k_here; (with_reducible show wpAny _ _ (call (Value.builtin _) [Value.ref _, _]) _ _ _); k_dflt (refine' append_K ?k1 ?k2 ?k3 ?_ ?z; (case k1 => k_asm); (case k2 => k_asm); (case k3 => k_upd); (case z => assumption); k_whole); intro _ _ _; (try k_sweep))
  trivial
theorem line_DueB_5 : True := by
  k_with "call builtin:max!" => first | ((with_reducible show wpAny _ _ (call _ [Value.int _ _, Value.int _ _]) _ _ _); k_dflt (refine' max2_K ?h1 ?h2 ?h3 ?_; (case h1 => rfl); (case h2 => k_asm); (case h3 => k_asm)); intro _ _ _ _ _; (try k_sweep)) | ((with_reducible show wpAny _ _ (call _ [Value.ref _]) _ _ _); k_dflt (refine' max3_lf ?p1 ?p2 ?p3 ?h1 ?h2 ?h3 ?h4 ?_; (case h1 => rfl); (case h2 => k_asm); (case h3 => k_asm); (case h4 => k_dflt done); (case p1 => assumption); (case p2 => assumption); (case p3 => assumption)); intro _ _ _ _ _ _; (try k_sweep))
  trivial
theorem line_DueB_6 : True := by
  k_with "call builtin:min!" => first | ((with_reducible show wpAny _ _ (call _ [Value.int _ _, Value.int _ _]) _ _ _); k_dflt (refine' min2_K ?h1 ?h2 ?h3 ?_; (case h1 => rfl); (case h2 => k_asm); (case h3 => k_asm)); intro _ _ _ _ _; (try k_sweep)) | ((with_reducible show wpAny _ _ (call _ [Value.ref _]) _ _ _); k_dflt (refine' min3_lf ?h1 ?h2 ?h3 ?h4 ?_; (case h1 => rfl); (case h2 => k_asm); (case h3 => k_asm); (case h4 => k_dflt done)); intro _ _ _ _ _; (try k_sweep))
  trivial
theorem c_due0 {w : World} {p : Program} {loose : List Str} {mean : ExcName → Option Value} {mg mb : Str → Option Value} {dp un : Nat} {gd : Option (List Code)} {cn : Str} {cs : Scope} {a : Addr} {ccd : Value} {cl : List (Str × Addr)} {outer : List Env} {A₀ : Around} {base h₀ : Heap} {L : Addr} {m : Str → Option Value} {news : List (Addr × Obj)} {s : Shared} {Q E : Value → Shared → Prop} {hue sh lv sc sf : Int} {u1 u2 u3 u4 u5 : Tok}
    (B : Below A₀ base outer h₀) (F : Fr h₀ L s.heap m) (X : (hd.heap_1 w.params).In h₀) (N : News h₀ L s.heap news) (T : Top p loose mean mg mb h₀) (hk : cs.kind = .function) (v1 : 0 ≤ hue) (v2 : hue < 16) (v3 : 0 ≤ sh) (v4 : sh ≤ 8) (v5 : 0 ≤ lv) (v6 : lv ≤ 8) (v7 : -32 ≤ sc) (v8 : sc ≤ 32) (v9 : -10000 ≤ sf) (v10 : sf ≤ 10000) (hdp : dp + 1 < recursionLimit) (hun : un + 8 < cLine)
    (hret : ∀ (D T0 T1 T2 T3 T4 : Addr) (vt vb : Value) (p0 p1 p2 : UInt64) (ta tb tc t1 t2 t3 : Tok) (h' : Heap) (tk' : Nat),
      fl (sc * partP 0 hue sh lv + 32 * sf) 14 = p0 → fl (sc * partP 16 hue sh lv + 32 * sf) 14 = p1 → fl (sc * partP 32 hue sh lv + 32 * sf) 14 = p2 →
      HueV sh lv (hue + if sc < 0 then 8 else 0) vt → HueV sh lv (hue + if sc < 0 then 0 else 8) vb →
      @LT.lt Nat _ 0 ta → @LT.lt Nat _ 0 tb → @LT.lt Nat _ 0 tc → @LT.lt Nat _ 0 t1 → @LT.lt Nat _ 0 t2 → @LT.lt Nat _ 0 t3 →
      (∀ q ∈ news, q.1 < T0) → T0 < T1 → T1 < T2 → T2 < T3 → T3 < T4 → T4 < D → Fr h₀ L h' m →
      News h₀ L h' ((D, listOf #[.ref T0, .float (Float64.div (Float64.add (max3F p0 p1 p2) (min3F p0 p1 p2)) (Float64.ofInt 2)) t1, .ref T1, .ref T2, .ref T3, .ref T4, .bool true] 0) ::
        (T4, tup2 vb (.float (Float64.sub (Float64.ofInt 1) (Float64.div (Float64.add (max3F p0 p1 p2) (min3F p0 p1 p2)) (Float64.ofInt 2))) t2)) :: (T3, tup2 (.bool (sh * lv == 0)) (.bool (sh * lv == 0))) :: (T2, tup2 vt (.float (max3F p0 p1 p2) t3)) ::
        (T1, tup2 vt (.float (Float64.div (Float64.add (max3F p0 p1 p2) (min3F p0 p1 p2)) (Float64.ofInt 2)) t1)) :: (T0, { cls := .type "tuple", data := .seq #[.float p0 ta, .float p1 tb, .float p2 tc] }) :: news) →
      Q (.ref D) { s with heap := h', toks := tk' }) :
    wpAny (model PySem.Challenge.rw_mq0203_02.prog w) (ktrTop dp un gd cn cs L a ccd cl outer) (call (.ref 82) [.int hue u1, .int sh u2, .int lv u3, .int sc u4, .int sf u5]) Q E s := by
  refine wpAny_call ?_
  k_dflt cell_enter
  k_steps
  rename_i lp hx1 lA hx2 tt tz lc h2 F2 N2 lB
  unfold Stp
  refine iter_listUnr (by rfl) F2 N2 List.mem_cons_self rfl rfl ?_
  intro I hI
  refine list_rest (CJ _ (fun c => fl (sc * partP c hue sh lv + 32 * sf) 14) lc lp I _ news) ?step ?zero _ _ _ cc_start
  case step =>
    intro v0 r m1 n1 j it h1 tk1 hc F3 N4
    obtain ⟨dn, td, nn, o1, o2, o3, e1, e2, e3, rfl, rfl⟩ := j
    cases td with
    | nil => exact nomatch e1
    | cons q td2 =>
    obtain ⟨c, tc⟩ := q
    obtain ⟨rfl, rfl⟩ := List.cons.inj e1
    have hlen : dn.length ≤ 3 := by
      have := congrArg List.length e2
      simp only [List.length_append, List.length_map, List.length_cons, List.length_nil] at this
      omega
    have hz : (dn.map (cpartG fun c => fl (sc * partP c hue sh lv + 32 * sf) 14)).toArray.size ≤ sizeLine := by
      simp only [List.size_toArray, List.length_map, sizeLine_eq]; omega
    dsimp only at F3
    have hIp : @LT.lt Nat _ lp I := hI _ (List.mem_cons_of_mem _ List.mem_cons_self)
    clear N2 F2 hret F N
    generalize hI2 : (dn.map (cpartG fun c => fl (sc * partP c hue sh lv + 32 * sf) 14)).toArray = its at N4 hz
    k_steps
    · exact absurd (by with_reducible assumption) (due_no v3 v4 v5 v6 v7 v8 v9 v10)
    · rename_i h9 F9 N9 t9 ht9
      rw [due_div v3 v4 v5 v6 v7 v8 v9 v10] at N9
      subst hI2
      exact unr_end F9 N9 (fun p hp => Nat.ne_of_lt (by
        rcases List.mem_cons.mp hp with rfl | hp
        · exact hI (lc, _) List.mem_cons_self
        · rcases List.mem_cons.mp hp with rfl | hp
          · exact hIp
          · exact hI p (List.mem_cons_of_mem _ (List.mem_cons_of_mem _ hp)))) ⟨List.mem_cons_self, cc_next e2 e3 (by first | with_reducible assumption | exact Nat.succ_pos _)⟩
  case zero =>
    intro m1 n1 j h1 tk1 F3 N4
    obtain ⟨dn, td, nn, o1, o2, o3, e1, e2, e3, rfl, rfl⟩ := j
    cases td with
    | cons q td2 => exact nomatch e1
    | nil =>
    rw [List.map_nil, List.append_nil] at e2
    obtain ⟨ta, tb, tc, rfl⟩ := dn3 e2
    dsimp only [List.map_cons, List.map_nil, cpartG] at F3 N4 ⊢
    have pa : @LT.lt Nat _ 0 ta := e3 (0, ta) (by simp)
    have pb : @LT.lt Nat _ 0 tb := e3 (16, tb) (by simp)
    have pc : @LT.lt Nat _ 0 tc := e3 (32, tc) (by simp)
    have N5 : News _ _ h1 ((lc, _) :: (lp, listOf [.float (fl (sc * partP 0 hue sh lv + 32 * sf) 14) ta, .float (fl (sc * partP 16 hue sh lv + 32 * sf) 14) tb, .float (fl (sc * partP 32 hue sh lv + 32 * sf) 14) tc].toArray nn) :: news) := N4
    clear F2 N2 N4 e1 e2 e3 lA
    generalize eq0 : fl (sc * partP 0 hue sh lv + 32 * sf) 14 = p0 at N5
    generalize eq1 : fl (sc * partP 16 hue sh lv + 32 * sf) 14 = p1 at N5
    generalize eq2 : fl (sc * partP 32 hue sh lv + 32 * sf) 14 = p2 at N5
    k_steps
    all_goals first
      | exact absurd (by with_reducible assumption) (no16 _)
      | exact absurd (show sh * lv = 0 by with_reducible assumption) (mul_nz (by with_reducible assumption) (by with_reducible assumption))
      | (rename_i F9 N9 Tc9 X9
         refine' hret _ _ _ _ _ _ _ _ _ _ _ _ _ _ _ _ _ _ _ eq0 eq1 eq2 ?v1 ?v2 pa pb pc ?t1 ?t2 ?t3 ?o0 ?o1 ?o2 ?o3 ?o4 ?o5 F9 (N9.perm dropD)
         case v1 => first | exact hv0 (by with_reducible assumption) | exact hv1 (by with_reducible assumption) (by with_reducible assumption) (by first | rw [if_pos (by with_reducible assumption)] | rw [if_neg (by with_reducible assumption)]) (by first | with_reducible assumption | exact Nat.succ_pos _)
         case v2 => first | exact hv0 (by with_reducible assumption) | exact hv1 (by with_reducible assumption) (by with_reducible assumption) (by first | rw [if_pos (by with_reducible assumption)] | rw [if_neg (by with_reducible assumption)]) (by first | with_reducible assumption | exact Nat.succ_pos _)
         case t1 => first | with_reducible assumption | exact Nat.succ_pos _
         case t2 => first | with_reducible assumption | exact Nat.succ_pos _
         case t3 => first | with_reducible assumption | exact Nat.succ_pos _
         case o0 => exact lt_all (And.right (And.right (by with_reducible assumption)))
         case o1 => exact And.left (by with_reducible assumption)
         case o2 => exact And.left (by with_reducible assumption)
         case o3 => exact And.left (by with_reducible assumption)
         case o4 => exact And.left (by with_reducible assumption)
         case o5 => exact And.left (by with_reducible assumption))
end
section
theorem clear_Red1B : True := by k_with_none; trivial
open PySem PySem.Calls PySem.W PyProof.Rows PySem.Spec
set_option maxRecDepth 100000
set_option maxHeartbeats 8000000
theorem fill7 : True := by
  have h2 : (hd.heap_1 = hd.heap_1 ∧ PySem.Challenge.rw_mq0203_02 = PySem.Challenge.rw_mq0203_02) → True := fun _ => trivial
  apply h2
  k_fill
  exact ⟨rfl, rfl⟩
noncomputable def LstIt (o : Obj) (ax : Addr) (i : Nat) : Prop := o.cls = .type "list_iterator" ∧ o.data = .fields #[.ref ax, rawInt i]
section
variable {prog : Program} {w : World} {A : Around} {E : Value → Shared → Prop} {s : Shared} {h₀ : Heap} {L ax I : Addr} {m : Str → Option Value} {news : List (Addr × Obj)} {its : Array Value} {n i : Nat} {io : Obj}
theorem LstIt.at {h : Heap} (a : LstIt io ax i) (ho : h.get? I = some io) : h.IsListIter I ax i := ⟨io, ho, a.1, a.2⟩
theorem lst_iter {Q : Value → Shared → Prop} (F : Fr h₀ L s.heap m) (N : News h₀ L s.heap news) (hm : (ax, listOf its n) ∈ news)
    (h : ∀ (I : Addr) h' oI, Fr h₀ L h' m → News h₀ L h' ((I, oI) :: news) → (∀ p ∈ news, p.1 < I) → LstIt oI ax 0 → Q (.ref I) { s with heap := h' }) :
    wpAny (model prog w) A (call (.builtin "iter") [.ref ax]) Q E s := by
  have hl : s.heap.IsList ax its := ⟨_, (N _ hm).1, rfl, n, rfl⟩
  refine call_function_entry (by decide +kernel) (by decide +kernel) kdk_entry_iter (kdk_args_iter _) ?_
  unfold Builtin.«iter»
  refine wpAny_bind (m := someArgs "iter" 1 2 _) (wpAny_of_eq (a := [Value.ref ax]) (by first | rfl | kernel_rfl!) ?_)
  show wpAny _ _ (pyIter (.ref ax) >>= _) _ _ _
  refine wpAny_bind (wpAny_pyIter_list hl ?_)
  exact wpAny_pure ⟨_, rfl, h _ _ _ (F.push _) (News.push F N _ rfl) (fun q hq => Heap.lt_size (N q hq).1) ⟨rfl, rfl⟩⟩
theorem lst_walks (hh : A.handled = none) (hne : ax ≠ I) (hi : i ≤ its.size) :
    Walks prog w A I [I, ax] [I] (its.size - i) (fun j v => its[i + j]? = some v) (fun j h => h.IsListIter I ax (i + j) ∧ h.IsList ax its) where
  sub := (Walks.list (prog := prog) (w := w) hh I ax hne its).sub
  frame := fun j h h' st k => (Walks.list (prog := prog) (w := w) hh I ax hne its).frame (i + j) h h' st k
  item := fun j s Q E hj st k => (Walks.list (prog := prog) (w := w) hh I ax hne its).item (i + j) s Q E (by omega) st k
  done := fun s Q E st k => (Walks.list (prog := prog) (w := w) hh I ax hne its).done s Q E (by rw [show i + (its.size - i) = its.size by omega] at st; exact st) k
  self := fun j s Q E st k => (Walks.list (prog := prog) (w := w) hh I ax hne its).self (i + j) s Q E st k
end
section
variable {prog : Program} {w : World} {A : Around} {E : Value → Shared → Prop} {s : Shared} {env : Env} {h₀ : Heap} {x : Str} {body : List Stmt} {Q : Flow → Shared → Prop} {I ax : Addr} {io : Obj} {its : Array Value} {n i0 : Nat} {m₀ : Str → Option Value} {news : List (Addr × Obj)}
theorem iter_it (hh : A.handled = none) (F : Fr h₀ env.locals s.heap m₀) (N : News h₀ env.locals s.heap ((I, io) :: news)) (hi : LstIt io ax i0) (hm : (ax, listOf its n) ∈ news) (hle : i0 ≤ its.size) (off : ∀ p ∈ news, p.1 ≠ I)
    (J : Nat → (Str → Option Value) → List (Addr × Obj) → Prop) (h0 : J i0 m₀ news)
    (step : ∀ i v m₁ T own h tk, its[i]? = some v → J i m₁ T → (∀ p ∈ T, p.1 ≠ I) → (∃ o, (I, o) ∈ own) → Fr h₀ env.locals h (fun y => if y = x then some v else m₁ y) → News h₀ env.locals h (own ++ T) →
      wpAny (model prog w) A (execs body env) (LoopStepV h₀ env.locals [I] own (J (i + 1)) { s with heap := h, toks := tk } (fun v s' => Q (.ret v) s') fun s' => Q .next s') E { s with heap := h, toks := tk })
    (zero : ∀ m₁ T h tk, J its.size m₁ T → Fr h₀ env.locals h m₁ → News h₀ env.locals h T → Q .next { s with heap := h, toks := tk }) :
    wpAny (model prog w) A (pyIter (.ref I)) (fun it s₂ => LoopAtV prog w A h₀ env x body Q E it s₂) E s := by
  have hI := N _ List.mem_cons_self
  have ha := N _ (List.mem_cons_of_mem _ hm)
  have hne : ax ≠ I := off _ hm
  have W := lst_walks (prog := prog) (w := w) (its := its) (i := i0) hh hne hle
  have st : s.heap.IsListIter I ax (i0 + 0) ∧ s.heap.IsList ax its := ⟨hi.at hI.1, _, ha.1, rfl, n, rfl⟩
  refine W.self 0 s _ _ st ⟨I, [I, ax], [I], _, _, _, m₀, news, fun j => J (i0 + j), rfl, W, ?_, ?_, ?_, st, F, fun p hp => N p (List.mem_cons_of_mem _ hp), h0, ?_, ?_⟩
  · intro h
    rcases List.mem_cons.mp h with e | h
    · exact hI.2.1 e.symm
    · exact ha.2.1 (List.mem_singleton.mp h).symm
  · intro b hb; rw [List.mem_singleton.mp hb]; exact hI.2.2
  · intro p hp h; exact off p hp (List.mem_singleton.mp h)
  · rintro j v m₁ T s₁ own ⟨h, tk, rfl⟩ _ hv hJ ho _ _ hall st1 F₁ N₁
    obtain ⟨o, go, _⟩ := st1.1
    exact step (i0 + j) v m₁ T own h tk hv hJ (fun p hp e => ho p hp (List.mem_singleton.mpr e)) ⟨o, hall I List.mem_cons_self hI.2.2 o go⟩ F₁ N₁
  · intro h tk m₁ T F₁ N₁ _ hJ
    rw [show i0 + (its.size - i0) = its.size by omega] at hJ
    exact zero m₁ T h tk hJ F₁ N₁
end
theorem is_oth {M : Model} {A : Around} {E : Value → Shared → Prop} {s : Shared} {Q : Value → Shared → Prop} {x y : Addr} {ox oy : Obj} (hxy : x ≠ y) (hx : s.heap.get? x = some ox) (hy : s.heap.get? y = some oy) (hnt : oy.cls ≠ .type "tuple")
    (h : Q (.bool false) s) : wpAny M A (compareOp .Is (.ref x) (.ref y)) Q E s := by
  show wpAny M A (do return .bool (← isSame (.ref x) (.ref y))) Q E s
  exact wpAny_bind (PySem.SeqAt.wpAny_isSame_ref_other' hxy hx hy hnt (wpAny_pure h))
noncomputable def CallK (w : World) (nd nu : Nat) (f : Value) (args : List Value) (P : List (Addr × Obj) → Prop) (R : Value → List (Addr × Obj) → Prop) : Prop :=
  ∀ ⦃p : Program⦄ ⦃loose : List Str⦄ ⦃mean : ExcName → Option Value⦄ ⦃mg mb : Str → Option Value⦄ ⦃dp un : Nat⦄ ⦃gd : Option (List Code)⦄ ⦃cn : Str⦄ ⦃cs : Scope⦄ ⦃a : Addr⦄ ⦃ccd : Value⦄ ⦃cl : List (Str × Addr)⦄ ⦃outer : List Env⦄ ⦃A₀ : Around⦄ ⦃base h₀ : Heap⦄ ⦃L : Addr⦄ ⦃m : Str → Option Value⦄ ⦃news : List (Addr × Obj)⦄ ⦃s : Shared⦄ ⦃Q E : Value → Shared → Prop⦄,
    Below A₀ base outer h₀ → Fr h₀ L s.heap m → (hd.heap_1 w.params).In h₀ → News h₀ L s.heap news → Top p loose mean mg mb h₀ → cs.kind = .function → dp + nd < recursionLimit → un + nu < cLine → P news →
    (∀ r fresh h' tk', Fr h₀ L h' m → News h₀ L h' (fresh ++ news) → (∀ q ∈ news, ∀ q' ∈ fresh, @LT.lt Nat _ q.1 q'.1) → R r fresh → Q r { s with heap := h', toks := tk' }) →
    wpAny (model PySem.Challenge.rw_mq0203_02.prog w) (ktrTop dp un gd cn cs L a ccd cl outer) (call f args) Q E s
theorem red_perm {fr own T news : List (Addr × Obj)} : ∀ p ∈ own ++ (fr ++ T ++ news), p ∈ fr ++ (own ++ (T ++ news)) := fun p hp => by
  simp only [List.mem_append] at hp ⊢
  rcases hp with h | (h | h) | h
  · exact .inr (.inl h)
  · exact .inl h
  · exact .inr (.inr (.inl h))
  · exact .inr (.inr (.inr h))
theorem red_off {I : Addr} {oI : Obj} {fr own T news : List (Addr × Obj)} (lt : ∀ q ∈ own ++ (T ++ news), ∀ q' ∈ fr, @LT.lt Nat _ q.1 q'.1) (hoI : (I, oI) ∈ own) (off : ∀ p ∈ T ++ news, p.1 ≠ I) : ∀ p ∈ fr ++ T ++ news, p.1 ∉ [I] := fun p hp h => by
  have h := List.mem_singleton.mp h
  rw [List.append_assoc] at hp
  rcases List.mem_append.mp hp with q | q
  · exact absurd h (Nat.ne_of_gt (lt _ (List.mem_append_left _ hoI) p q))
  · exact off p q h
theorem red_lt {fr own T news : List (Addr × Obj)} (lt : ∀ q ∈ own ++ (T ++ news), ∀ q' ∈ fr, @LT.lt Nat _ q.1 q'.1) (hlt : ∀ q ∈ news, ∀ q' ∈ T, @LT.lt Nat _ q.1 q'.1) : ∀ q ∈ news, ∀ q' ∈ fr ++ T, @LT.lt Nat _ q.1 q'.1 := fun q hq q' hq' => by
  rcases List.mem_append.mp hq' with h | h
  · exact lt q (List.mem_append_right _ (List.mem_append_right _ hq)) q' h
  · exact hlt q hq q' h
theorem lt_nil {news : List (Addr × Obj)} : ∀ q ∈ news, ∀ q' ∈ ([] : List (Addr × Obj)), @LT.lt Nat _ q.1 q'.1 := fun _ _ _ h => nomatch h
noncomputable def JR (base : Str → Option Value) (I : Addr) (news : List (Addr × Obj)) (Inv : Nat → Value → List (Addr × Obj) → Prop) (i : Nat) (m₁ : Str → Option Value) (T' : List (Addr × Obj)) : Prop :=
  ∃ acc T, T' = T ++ news ∧ Inv i acc T ∧ (∀ q ∈ news, ∀ q' ∈ T, @LT.lt Nat _ q.1 q'.1) ∧ ((m₁ = fun y => if y = Str.ofString "value" then some acc else base y) ∨ ∃ e, m₁ = fun y => if y = Str.ofString "value" then some acc else if y = Str.ofString "element" then some e else base y)
set_option pp.deepTerms false
set_option pp.deepTerms.threshold 5
section
variable {w : World} {p : Program} {loose : List Str} {mean : ExcName → Option Value} {mg mb : Str → Option Value} {dp un : Nat} {gd : Option (List Code)} {cn : Str} {cs : Scope} {a : Addr} {ccd : Value} {cl : List (Str × Addr)} {outer : List Env} {A₀ : Around} {base h₀ : Heap} {L : Addr} {m : Str → Option Value} {news : List (Addr × Obj)} {s : Shared} {Q E : Value → Shared → Prop}
section
theorem lyne_Red1B_1 : True := by
  k_with "k_dflt_done!" => first | with_reducible assumption | with_reducible exact List.mem_cons_self | (with_reducible refine List.mem_cons_of_mem _ ?_; k_dflt done)
  trivial
theorem line_Red1B_1 : True := by
  k_with "pyIter ref!" => (refine stop_mark ?_)
  trivial
theorem line_Red1B_2 : True := by
  k_with "call builtin:iter!" => (k_here; (with_reducible show wpAny _ _ (call (Value.builtin "iter") [Value.ref _]) _ _ _); k_dflt (refine' lst_iter ?F ?N ?m ?_; (case F => k_asm); (case N => k_asm); (case m => k_dflt done)); intro _ _ _ _ _ lt7 _; (try k_lt lt7))
  trivial
theorem line_Red1B_3 : True := by
  k_with "exec For Name Name cons nil!" => (k_here; (with_unfolding_all refine' For_invVF ?kF ?k1 ?k2 ?_; (case kF => k_asm); (case k1 => exact rfl); (case k2 => exact rfl); k_whole))
  trivial
theorem line_Red1B_4 : True := by
  k_with "call ref!" => (k_here; k_dflt (refine' hc ?B ?F ?X ?N ?T ?hk ?hd ?hu ?P ?_; (case B => k_asm); (case F => k_asm); (case X => k_asm); (case N => k_asm); (case T => k_asm); (case hk => rfl); (case hd => first | ktr_room | (simp only [ktrTop]; omega)); (case hu => first | ktr_units | omega); (case P => exact fun q hq => List.mem_append_right _ hq)); intro r5 fr5 h5 tk5 F5 N5 lt5 hr5)
  trivial
theorem line_Red1B_5 : True := by
  k_with "callWith ref!" => (k_here; k_dflt (refine' callWith_F ?k1 ?_; (case k1 => exact hfn (by k_asm) (by k_asm) (by k_asm) (fun q hq => List.mem_append_right _ (List.mem_append_right _ hq))); k_whole))
  trivial
theorem line_Red1B_6 : True := by
  k_with "And!" => (refine ⟨hfn (by k_asm) (by k_asm) (by k_asm) (fun q hq => List.mem_append_right _ (List.mem_append_right _ hq)), ?_⟩; try dsimp only [List.nil_append, List.cons_append])
  trivial
theorem c_reduce3 {f : Addr} {DL V0 : Addr} {its : Array Value} {n nd nu : Nat} {oV : Obj} (Inv : Nat → Value → List (Addr × Obj) → Prop)
    (hfn : ∀ {g h : Heap} {L : Addr} {m : Str → Option Value} {l : List (Addr × Obj)}, News g L h l → Fr g L h m → (hd.heap_1 w.params).In g → (∀ q ∈ news, q ∈ l) → FnAt f h)
    (hstep : ∀ i acc v T, its[i]? = some v → Inv i acc T → CallK w nd nu (.ref f) [acc, v] (fun l => ∀ q ∈ T ++ news, q ∈ l) (fun r fresh => Inv (i + 1) r (fresh ++ T)))
    (B : Below A₀ base outer h₀) (F : Fr h₀ L s.heap m) (X : (hd.heap_1 w.params).In h₀) (N : News h₀ L s.heap news) (mL : (DL, listOf its n) ∈ news) (mV : (V0, oV) ∈ news) (h0 : Inv 0 (.ref V0) []) (T : Top p loose mean mg mb h₀) (hk : cs.kind = .function) (hdp : dp + nd + 1 < recursionLimit) (hun : un + nu + 8 < cLine)
    (hret : ∀ r T h' tk', Fr h₀ L h' m → News h₀ L h' (T ++ news) → (∀ q ∈ news, ∀ q' ∈ T, @LT.lt Nat _ q.1 q'.1) → Inv its.size r T → Q r { s with heap := h', toks := tk' }) :
    wpAny (model PySem.Challenge.rw_mq0203_02.prog w) (ktrTop dp un gd cn cs L a ccd cl outer) (call (.ref 51) [.ref f, .ref DL, .ref V0]) Q E s := by
  refine wpAny_call ?_
  k_dflt (refine' code_def ?k1 ?k2 ?k3 ?k4 ?k5 ?kA ?kF ?kK ?k6 ?k7 ?k8 ?k9 ?kB ?_ ?c2 ?c3 ?c4 ?c5; (case kA => exact rfl); (case kF => exact rfl); (case kK => assumption); (case k1 => k_asm); (case k2 => k_asm); (case k3 => k_asm); (case k4 => k_asm); (case k5 => k_asm); (case k6 => k_is); (case k7 => k_is); (case k8 => ktr_room); (case k9 => exact BindsTo.of_defaults rfl (F.keep _ _ (X 44 _ (by rfl))) rfl rfl rfl); (case c5 => decide); (case kB => exact locs rfl); (case c2 => exact rfl); (case c3 => exact rfl); (case c4 => exact rfl); k_whole; intro g' L' h' FG' F' N' B' X' T'; (try dsimp only); (try k_lift B'); (try k_fold))
  k_steps
  rename_i I' h1 oI hi2 h2 F2 N2
  have l1 := lt7
  refine is_oth (fun e => ?_) (N2 _ (List.mem_cons_of_mem _ mV)).1 (F2.keep _ _ (X' 43 _ (by rfl))) (by with_unfolding_all decide) ?_
  · have q := (N2 _ (List.mem_cons_of_mem _ mV)).2.2
    rw [show (V0, oV).1 = 43 from e, X' 43 _ (by rfl)] at q
    exact nomatch q
  k_steps
  rename_i h3 F3 N3
  have offI : ∀ p ∈ news, p.1 ≠ I' := fun p hp => Nat.ne_of_lt (l1 p hp)
  refine iter_it (by rfl) F3 N3 hi2 mL (Nat.zero_le _) offI (JR _ I' news Inv) ⟨_, [], rfl, h0, lt_nil, .inl rfl⟩ ?step ?zero
  case step =>
    rintro i v m₁ T' own h tk hv ⟨acc, T, rfl, hI, hlt, hm⟩ off ⟨oI2, hoI⟩ F4 N4
    have hc := hstep i acc v T hv hI
    rcases hm with rfl | ⟨e, rfl⟩
    all_goals
      k_steps
      rename_i h8 F8 N8
      refine LoopStepU.intro F8 (news₂ := (fr5 ++ T) ++ news) (N8.perm (red_perm)) (red_off lt5 hoI off) ⟨r5, fr5 ++ T, rfl, hr5, red_lt lt5 hlt, .inr ⟨v, ?_⟩⟩
      funext y; dsimp only; repeat' split
      all_goals first | rfl | contradiction
  case zero =>
    rintro m₁ T' h tk ⟨acc, T, rfl, hI, hlt, hm⟩ F4 N4
    dsimp only
    rcases hm with rfl | ⟨e, rfl⟩
    all_goals
      k_steps
      exact hret _ T _ _ (by k_asm) (by k_asm) hlt hI
end
end
end
section
theorem clear_Red2B : True := by k_with_none; trivial
open PySem PySem.Calls PySem.W PyProof.Rows PySem.Spec
set_option maxRecDepth 100000
set_option maxHeartbeats 8000000
theorem fill8 : True := by
  have h2 : (hd.heap_1 = hd.heap_1 ∧ PySem.Challenge.rw_mq0203_02 = PySem.Challenge.rw_mq0203_02) → True := fun _ => trivial
  apply h2
  k_fill
  exact ⟨rfl, rfl⟩
section
variable {prog : Program} {w : World} {A : Around} {E : Value → Shared → Prop} {s : Shared} {h₀ : Heap} {L ax I : Addr} {m : Str → Option Value} {news : List (Addr × Obj)} {its : Array Value} {n i : Nat} {io : Obj} {x : Value}
theorem lst_next {Q : Value → Shared → Prop} (F : Fr h₀ L s.heap m) (N : News h₀ L s.heap ((I, io) :: news)) (off : ∀ p ∈ news, p.1 ≠ I) (hi : LstIt io ax i) (hm : (ax, listOf its n) ∈ news) (hx : its[i]? = some x)
    (h : ∀ h' o', Fr h₀ L h' m → News h₀ L h' ((I, o') :: news) → LstIt o' ax (i + 1) → Q x { s with heap := h' }) :
    wpAny (model prog w) A (call (.builtin "next") [.ref I]) Q E s := by
  have hI := N _ List.mem_cons_self
  have ha := N _ (List.mem_cons_of_mem _ hm)
  have hit := hi.at hI.1
  have hk : ∀ h', h'.IsListIter I ax (i + 1) → Heap.SameBut I s.heap h' → Q x { s with heap := h' } := fun h' q hs => by
    obtain ⟨o', ho', hc, hd⟩ := q
    exact h h' o' (F.change hs hI.2.1 hI.2.2) ((show News h₀ L s.heap ([] ++ (I, io) :: news) from N).setIn (fun _ h => nomatch h) off hs ho') ⟨hc, hd⟩
  refine call_function_entry (by decide +kernel) (by decide +kernel) kdk_entry_next (kdk_args_next _) ?_
  unfold Builtin.«next»
  refine wpAny_bind (m := someArgs "next" 1 2 _) (wpAny_of_eq (a := [Value.ref I]) (by first | rfl | kernel_rfl!) ?_)
  dsimp only
  refine wpAny_bind (wpAny_specialOf (name := Str.ofString "__next__") hit.typeIs slot_listiter_next.lookup ?_)
  refine wpAny_ite_split (fun hab => absurd hab (by decide)) (fun _ => ?_)
  refine wpAny_bind (wpAny_callSpecial?_slot (name := Str.ofString "__next__") hit.typeIs slot_listiter_next
    (wpAny_call_entry slot_listiter_next hit.typeIs entry_listiter_next ?_ (args_listiter_next _)))
  show wpAny _ _ (field (.ref I) 0 >>= _) _ _ s
  refine wpAny_bind (wpAny_field hI.1 hi.2 (x := .ref ax) rfl ?_)
  show wpAny _ _ (if (Value.ref ax == Value.none) = true then _ else _) _ _ s
  rw [if_neg (show ¬ ((Value.ref ax == Value.none) = true) from Bool.false_ne_true)]
  show wpAny _ _ (field (.ref I) 1 >>= _) _ _ s
  refine wpAny_bind (wpAny_field hI.1 hi.2 (x := .int i 0) rfl ?_)
  show wpAny _ _ (seqItems? (.ref ax) >>= _) _ _ s
  refine wpAny_bind (wpAny_seqItems ha.1 rfl ?_)
  simp only [Int.toNat_natCast, hx]
  refine wpAny_bind (wpAny_setField hI.1 hi.2 (by simp) (wpAny_pure ⟨x, rfl, ?_⟩))
  refine wpAny_pure ⟨_, rfl, hk _ ?_ (Heap.SameBut.update ..)⟩
  exact ⟨_, Heap.get?_update_self _ hI.1 (Obj.isFreed_of_fields (Obj.data_mapFields hi.2 _)), (Obj.cls_mapFields ..).trans hi.1, by
    rw [Obj.data_mapFields hi.2]; simp [rawInt]⟩
end
set_option pp.deepTerms false
set_option pp.deepTerms.threshold 5
section
variable {w : World} {p : Program} {loose : List Str} {mean : ExcName → Option Value} {mg mb : Str → Option Value} {dp un : Nat} {gd : Option (List Code)} {cn : Str} {cs : Scope} {a : Addr} {ccd : Value} {cl : List (Str × Addr)} {outer : List Env} {A₀ : Around} {base h₀ : Heap} {L : Addr} {m : Str → Option Value} {news : List (Addr × Obj)} {s : Shared} {Q E : Value → Shared → Prop}
section
theorem lyne_Red2B_1 : True := by
  k_with "k_dflt_done!" => first | with_reducible assumption | with_reducible exact List.mem_cons_self | (with_reducible refine List.mem_cons_of_mem _ ?_; k_dflt done)
  trivial
theorem line_Red2B_1 : True := by
  k_with "pyIter ref!" => (refine stop_mark ?_)
  trivial
theorem line_Red2B_2 : True := by
  k_with "call builtin:iter!" => (k_here; (with_reducible show wpAny _ _ (call (Value.builtin "iter") [Value.ref _]) _ _ _); k_dflt (refine' lst_iter ?F ?N ?m ?_; (case F => k_asm); (case N => k_asm); (case m => k_dflt done)); intro _ _ _ _ _ lt7 _; (try k_lt lt7))
  trivial
theorem line_Red2B_3 : True := by
  k_with "exec For Name Name cons nil!" => (k_here; (with_unfolding_all refine' For_invVF ?kF ?k1 ?k2 ?_; (case kF => k_asm); (case k1 => exact rfl); (case k2 => exact rfl); k_whole))
  trivial
theorem line_Red2B_4 : True := by
  k_with "call ref!" => (k_here; k_dflt (refine' hc ?B ?F ?X ?N ?T ?hk ?hd ?hu ?P ?_; (case B => k_asm); (case F => k_asm); (case X => k_asm); (case N => k_asm); (case T => k_asm); (case hk => rfl); (case hd => first | ktr_room | (simp only [ktrTop]; omega)); (case hu => first | ktr_units | omega); (case P => exact fun q hq => List.mem_append_right _ hq)); intro r5 fr5 h5 tk5 F5 N5 lt5 hr5)
  trivial
theorem line_Red2B_5 : True := by
  k_with "callWith ref!" => (k_here; k_dflt (refine' callWith_F ?k1 ?_; (case k1 => exact hfn (by k_asm) (by k_asm) (by k_asm) (fun q hq => List.mem_append_right _ (List.mem_append_right _ hq))); k_whole))
  trivial
theorem line_Red2B_6 : True := by
  k_with "And!" => (refine ⟨hfn (by k_asm) (by k_asm) (by k_asm) (fun q hq => List.mem_append_right _ (List.mem_append_right _ hq)), ?_⟩; try dsimp only [List.nil_append, List.cons_append])
  trivial
theorem c_reduce2 {f : Addr} {DL : Addr} {its : Array Value} {n nd nu : Nat} {x0 : Value} (Inv : Nat → Value → List (Addr × Obj) → Prop)
    (hfn : ∀ {g h : Heap} {L : Addr} {m : Str → Option Value} {l : List (Addr × Obj)}, News g L h l → Fr g L h m → (hd.heap_1 w.params).In g → (∀ q ∈ news, q ∈ l) → FnAt f h)
    (hstep : ∀ i acc v T, its[i]? = some v → Inv i acc T → CallK w nd nu (.ref f) [acc, v] (fun l => ∀ q ∈ T ++ news, q ∈ l) (fun r fresh => Inv (i + 1) r (fresh ++ T)))
    (B : Below A₀ base outer h₀) (F : Fr h₀ L s.heap m) (X : (hd.heap_1 w.params).In h₀) (N : News h₀ L s.heap news) (mL : (DL, listOf its n) ∈ news) (hx0 : its[0]? = some x0) (h0 : Inv 1 x0 []) (T : Top p loose mean mg mb h₀) (hk : cs.kind = .function) (hdp : dp + nd + 1 < recursionLimit) (hun : un + nu + 8 < cLine)
    (hret : ∀ r T h' tk', Fr h₀ L h' m → News h₀ L h' (T ++ news) → (∀ q ∈ news, ∀ q' ∈ T, @LT.lt Nat _ q.1 q'.1) → Inv its.size r T → Q r { s with heap := h', toks := tk' }) :
    wpAny (model PySem.Challenge.rw_mq0203_02.prog w) (ktrTop dp un gd cn cs L a ccd cl outer) (call (.ref 51) [.ref f, .ref DL]) Q E s := by
  refine wpAny_call ?_
  k_dflt (refine' code_def ?k1 ?k2 ?k3 ?k4 ?k5 ?kA ?kF ?kK ?k6 ?k7 ?k8 ?k9 ?kB ?_ ?c2 ?c3 ?c4 ?c5; (case kA => exact rfl); (case kF => exact rfl); (case kK => assumption); (case k1 => k_asm); (case k2 => k_asm); (case k3 => k_asm); (case k4 => k_asm); (case k5 => k_asm); (case k6 => k_is); (case k7 => k_is); (case k8 => ktr_room); (case k9 => exact BindsTo.of_defaults rfl (F.keep _ _ (X 44 _ (by rfl))) rfl rfl rfl); (case c5 => decide); (case kB => exact locs rfl); (case c2 => exact rfl); (case c3 => exact rfl); (case c4 => exact rfl); k_whole; intro g' L' h' FG' F' N' B' X' T'; (try dsimp only); (try k_lift B'); (try k_fold))
  k_steps
  rename_i I' h1 oI hi2 h2 F2 N2
  have l1 := lt7
  have offI : ∀ p ∈ news, p.1 ≠ I' := fun p hp => Nat.ne_of_lt (l1 p hp)
  have h1le : 1 ≤ its.size := by
    rcases Nat.lt_or_ge 0 its.size with q | q
    · exact q
    · rw [Array.getElem?_eq_none (by omega)] at hx0; exact nomatch hx0
  refine lst_next F2 N2 offI hi2 mL hx0 (fun h9 oI3 F9 N9 hi3 => ?_)
  clear F2 N2 hi2
  k_steps
  rename_i h3 F3 N3
  refine iter_it (by rfl) F3 N3 hi3 mL h1le offI (JR _ I' news Inv) ⟨_, [], rfl, h0, lt_nil, .inl rfl⟩ ?step ?zero
  case step =>
    rintro i v m₁ T' own h tk hv ⟨acc, T, rfl, hI, hlt, hm⟩ off ⟨oI2, hoI⟩ F4 N4
    have hc := hstep i acc v T hv hI
    rcases hm with rfl | ⟨e, rfl⟩
    all_goals
      k_steps
      rename_i h8 F8 N8
      refine LoopStepU.intro F8 (news₂ := (fr5 ++ T) ++ news) (N8.perm (red_perm)) (red_off lt5 hoI off) ⟨r5, fr5 ++ T, rfl, hr5, red_lt lt5 hlt, .inr ⟨v, ?_⟩⟩
      funext y; dsimp only; repeat' split
      all_goals first | rfl | contradiction
  case zero =>
    rintro m₁ T' h tk ⟨acc, T, rfl, hI, hlt, hm⟩ F4 N4
    dsimp only
    rcases hm with rfl | ⟨e, rfl⟩
    all_goals
      k_steps
      exact hret _ T _ _ (by k_asm) (by k_asm) hlt hI
end
end
end
section
theorem clear_LamC : True := by k_with_none; trivial
open PySem PySem.Calls PySem.W PyProof.Rows PySem.Spec
section
variable {prog : Program} {w : World} {A A₀ : Around} {s : Shared} {K : Frag} {L : Addr} {h₀ base : Heap} {m mg mb : Str → Option Value} {news : List (Addr × Obj)} {p : Program} {loose : List Str} {mean : ExcName → Option Value}
/-- a lambda whose scope has cells -/
theorem kla_codeC {env : Env} {outer : List Env} {R : Result → Shared → Prop} {name qual : Str} {params : Arguments} {body : PySem.Expr} {scope : Scope} {pm ctv : Value} {c' : Addr} {f : Addr} {args : Args} {binds : List (Str × Value)}
    (B : Below A₀ base outer h₀) (F : Fr h₀ L s.heap m) (X₀ : K.In h₀) (N : News h₀ L s.heap news) (T : Top p loose mean mg mb h₀) (hA : A.frames = some (env :: outer)) (hf : env.frame = some L) (hke : env.scope.kind = .function)
    (ho : (f, kla_obj name qual params body scope [] pm c' ctv) ∈ news) (hcd : s.heap.CodeRec (.ref c') qual) (hroom : A.depth < recursionLimit)
    (hbind : bindArgs (kla_fn name qual params body scope [] pm (.ref c') ctv) args = pure binds) (hkind : (binds.all fun y => scope.names.lookup y.1 == some .local || scope.names.lookup y.1 == some .cell) = true)
    (hnd : ((cellsFrom 0 scope.names []).map (·.1)).Nodup)
    (h : ∀ g L' h₁ tk cells, Fr h₀ L g m → Fr g L' h₁ (bindL (envOfC qual scope L' f (.ref c')).kindOf binds fun _ => none) → News g L' h₁ (cells ++ news) →
      CellsAre (bindC (envOfC qual scope L' f (.ref c')).kindOf binds fun _ => none) (cellsFrom (L' + 1) scope.names []) cells → Below A base (env :: outer) g → K.In g → Top p loose mean mg mb g → (∀ p ∈ news, p.1 < L') →
      wpAny (model prog w) (A.deeper (envOfC qual scope L' f (.ref c'))) (eval body (envOfC qual scope L' f (.ref c')))
        (fun v s' => LeaveK h₀ L m g R v s')
        (fun e s' => wpAny (model prog w) (A.deeper (envOfC qual scope L' f (.ref c'))) (leaving (envOfC qual scope L' f (.ref c')) e) (fun _ s'' => R (.error e) s'') (fun e' s'' => R (.error e') s'') s')
        { s with heap := h₁, toks := tk })
    (hco : scope.isCoroutine = false) (hgen : scope.isGenerator = false) (hk : scope.kind = .function) : codeAny (model prog w) A (.call (.ref f) args) R s := by
  obtain ⟨FG, BG, st, lv⟩ := groundX (R := R) B F N hA hf hke
  refine kla_callFunE hroom (N _ ho).1 rfl hco hgen rfl hcd ?_
  rw [hbind]
  refine wpAny_pure (wpAny_newFunctionEnv_cells hk (kindsX hkind _) fun env' he s' x => ?_)
  subst he
  refine ⟨(T.nolimit.keeps F.keep).keeps x.toInCall.keep, kla_codeExpr ?_⟩
  obtain ⟨h₁, tk, rfl, _⟩ := x.done
  have hk₁ := x.toInCall.keep
  obtain ⟨cells, NC, Y⟩ := Cl.news (h₀ := s.heap) (Nat.le_refl _) fun n c hm => ⟨x.cell n c (lookup_of_mem_nodup (cellsFrom_names scope.names 0 (s.heap.objs.size + 1) [] [] rfl ▸ hnd) hm), x.above n c hm⟩
  refine wpAny_mono (h _ s.heap.objs.size h₁ tk cells FG ⟨x.toInCall.ns, fun b o e => hk₁ b o (of_hideAll _ e), Nat.le_of_eq (hideAll_size _ _)⟩ (fun p hp => ?_) Y BG (X₀.keeps st) (T.keeps st) (fun p hp => Heap.lt_size (N p hp).1)) (fun v s' hl => lv _ _ hl) fun _ _ y => y
  rcases List.mem_append.mp hp with hp | hp
  · refine ⟨(NC p hp).1, (NC p hp).2.1, ?_⟩
    cases q : (hideAll s.heap (news.map (·.1))).get? p.1 with
    | none => rfl
    | some o => have := of_hideAll _ q; rw [(NC p hp).2.2] at this; cases this
  · exact ⟨hk₁ _ _ (N p hp).1, Nat.ne_of_lt (Heap.lt_size (N p hp).1), hideAll_none _ (List.mem_map_of_mem hp)⟩
end
end
section
theorem clear_TupC : True := by k_with_none; trivial
open PySem PySem.Calls PySem.W PyProof.Rows PyProof.Rows.LCg PySem.Spec
section
variable {prog : Program} {w : World} {A : Around} {E : Value → Shared → Prop} {s : Shared} {h₀ : Heap} {L : Addr} {m : Str → Option Value} {env : Env}
/-- the tuple that is gone through lies in the ledger -/
noncomputable def TSrc (ax : Addr) (its : Array Value) (news : List (Addr × Obj)) : Prop := False ∨ ∃ o, (ax, o) ∈ news ∧ o.cls = .type "tuple" ∧ ∃ n, o.data = .seq its n
theorem TSrc.tup {h : Heap} {ax : Addr} {its : Array Value} {news : List (Addr × Obj)} (x : TSrc ax its news) (N : News h₀ L h news) : h.IsTuple ax its := by
  rcases x with x | ⟨o, hm, r⟩
  · exact x.elim
  · exact ⟨o, (N _ hm).1, r⟩
noncomputable def CompSrcTup (prog : Program) (w : World) (A : Around) (h₀ : Heap) (L : Addr) (m : Str → Option Value) (env : Env) (elt : PySem.Expr) (x : Str) (scope : Scope) (cl : List (Str × Addr)) (Fin : Shared → List Value → List (Addr × Obj) → Prop) (xv : Value) (s₁ : Shared) : Prop :=
  ∃ ax its news, xv = .ref ax ∧ A.handled = none ∧ Fr h₀ L s₁.heap m ∧ News h₀ L s₁.heap news ∧ TSrc ax its news ∧ its.size ≤ sizeLine ∧
    ∀ s₂ : Shared, (∃ h, s₂ = { s₁ with heap := h }) → CompRest prog w A h₀ L m env elt x scope cl s₂ (TSrc ax its) (fun i v => its[i]? = some v) (Fin s₂) its.size 0 [] news
theorem CompSrcTup.intro {elt : PySem.Expr} {x : Str} {scope : Scope} {cl : List (Str × Addr)} {Fin : Shared → List Value → List (Addr × Obj) → Prop} {ax : Addr} {its : Array Value} {o : Obj} {n : Nat} {news : List (Addr × Obj)} {s₁ : Shared}
    (hh : A.handled = none) (F : Fr h₀ L s₁.heap m) (N : News h₀ L s₁.heap news) (hm : (ax, o) ∈ news) (hc : o.cls = .type "tuple") (hd : o.data = .seq its n) (hsz : its.size ≤ sizeLine)
    (h : ∀ g, CompRest prog w A h₀ L m env elt x scope cl { s₁ with heap := g } (TSrc ax its) (fun i v => its[i]? = some v) (Fin { s₁ with heap := g }) its.size 0 [] news) :
    CompSrcTup prog w A h₀ L m env elt x scope cl Fin (.ref ax) s₁ := ⟨ax, its, news, rfl, hh, F, N, .inr ⟨o, hm, hc, n, hd⟩, hsz, fun _ ⟨g, e⟩ => e ▸ h g⟩
theorem tup_st {ax I : Addr} {its : Array Value} : ∀ i (h h' : Heap) (o : Obj) (nw : List (Addr × Obj)), (h.IsTupleIter I ax i ∧ h.IsTuple ax its) → h.get? I = some o → h'.get? I = some o → (∀ b o, h₀.get? b = some o → h'.get? b = some o) → News h₀ L h' nw → TSrc ax its nw → (h'.IsTupleIter I ax i ∧ h'.IsTuple ax its) :=
  fun i h h' o nw st e e' k N S => ⟨by obtain ⟨o', q, r⟩ := st.1; rw [e] at q; cases q; exact ⟨o, e', r⟩, S.tup N⟩
theorem ListComp_T {elt iter : PySem.Expr} {x : Str} {px : Pos} {scope : Scope} {cl : List (Str × Addr)} {pos : Pos} {Q : Value → Shared → Prop} (F₀ : Fr h₀ L s.heap m)
    (hclos : closureFor scope env = pure cl) (hcell : ∀ y ∈ scope.names, y.2 ≠ .cell) (hkind : scope.kind = .function)
    (hnames : ∀ y ∈ scope.names, y.2 = .local → scope.names.lookup y.1 = some .local) (hx : scope.names.lookup x = some .local)
    (h : wpAny (model prog w) A (eval iter env) (CompSrcTup prog w A h₀ L m env elt x scope cl (fun s₂ => FinE h₀ L m s₂ Q)) E s)
    (hs : ∀ x, foldedSetIterable iter env x = pure x := by intro _; rfl) :
    wpAny (model prog w) A (eval (.ListComp elt [⟨.Name x px, iter, [], 0⟩] scope pos) env) Q E s := by
  rw [eval_ListComp]
  refine wpAny_comprehension_free (use := none) rfl hs hclos hkind hnames (wpAny_mono h (fun xv s₁ h₁ => ?_) fun _ _ e => e)
  obtain ⟨ax, its, news, rfl, hh, F, N, S, hsz, R⟩ := h₁
  have hl := S.tup N
  have hlt : ax < s₁.heap.objs.size := by obtain ⟨_, e, _⟩ := hl; exact Heap.lt_size e
  refine wpAny_pyIter_tuple hl ?_
  refine block_U (Walks.tuple hh s₁.heap.objs.size ax (Nat.ne_of_lt hlt) its) hsz (fun i h st => by obtain ⟨o, e, _⟩ := st.1; exact ⟨o, e⟩) tup_st hcell hkind hx ⟨⟨_, Heap.get?_push_size _ rfl, rfl, rfl⟩, hl.push _⟩ (fun b hb => ?_)
    (F.keeps fun b o e => Heap.get?_push_of_some _ e) (N.grown fun b o e => Heap.get?_push_of_some _ e) (Nat.ne_of_lt F.ns.lt) (next_is_new F) (fun p hp => Nat.ne_of_lt (Heap.lt_size (N p hp).1)) S (R _ ⟨_, rfl⟩) ?_
  · show b < (s₁.heap.push _).objs.size
    rw [Heap.size_push]
    rcases List.mem_cons.mp hb with rfl | hb
    · exact Nat.lt_succ_self _
    · rw [List.mem_singleton.mp hb]; exact Nat.lt_succ_of_lt hlt
  · intro D C h tk m' ys news' F' N' o1 hn hC₀ hD₀ hCL hDL hCD offC fin
    refine ⟨m', hn, fun h'' hs'' => fin D h'' tk (F'.change hs'' hCL hC₀) (fun p hp => ?_) o1⟩
    refine ⟨hs''.extBut _ _ ?_ (N' p hp).1, (N' p hp).2⟩
    rcases List.mem_cons.mp hp with rfl | hp
    · exact Ne.symm hCD
    · exact offC p hp
end
end
section
theorem clear_SliC : True := by k_with_none; trivial
open PySem PySem.Calls PySem.W PyProof.Rows PySem.Spec
section
variable {prog : Program} {w : World} {A : Around} {E : Value → Shared → Prop} {s : Shared} {h₀ : Heap} {L : Addr} {m : Str → Option Value} {news : List (Addr × Obj)}
theorem sliceApplied_two {sl : Addr} {u : Tok} {Q : Int × Int × Nat → Shared → Prop} (hs : s.heap.IsSliceOf sl .none (.int 2 u) .none) (h : Q (0, 1, 2) s) :
    wpAny (model prog w) A (Builtin.Slice.sliceApplied (.ref sl) (pure (3 : Int))) Q E s := by
  obtain ⟨os, hos, hcs, hds⟩ := id hs
  unfold Builtin.Slice.sliceApplied Builtin.Slice.sliceFields
  refine wpAny_bind (wpAny_bind (wpAny_field hos hds (x := .none) rfl (wpAny_bind (wpAny_field hos hds (x := .int 2 u) rfl (wpAny_bind (wpAny_field hos hds (x := .none) rfl (wpAny_pure ?_)))))))
  refine wpAny_bind (slicePart_none ?_)
  show wpAny _ _ (if ((1 : Int) == 0) = true then _ else _) _ _ s
  rw [if_neg (by decide)]
  refine wpAny_bind (slicePart_none (wpAny_bind (slicePart_int (wpAny_bind (wpAny_pure ?_)))))
  show wpAny _ _ (match Builtin.Slice.sliceAdjust none (some 2) 1 (3 : Int) with | (lo, hi) => pure (lo, (1 : Int), Builtin.Slice.slicePlaces lo hi 1)) _ _ s
  rw [show Builtin.Slice.sliceAdjust none (some 2) 1 (3 : Int) = (0, 2) by decide]
  show wpAny _ _ (pure ((0 : Int), (1 : Int), Builtin.Slice.slicePlaces 0 2 1)) _ _ s
  rw [show Builtin.Slice.slicePlaces 0 2 1 = 2 by decide]
  exact wpAny_pure h
theorem getItem_tuple_two {t sl : Addr} {x y z : Value} {u : Tok} {Q : Value → Shared → Prop} (ht : IsTup s.heap t #[x, y, z]) (hs : s.heap.IsSliceOf sl .none (.int 2 u) .none)
    (h : Q (.ref s.heap.objs.size) { s with heap := s.heap.push { cls := .type "tuple", data := .seq #[x, y] } }) : wpAny (model prog w) A (getItem (.ref t) (.ref sl)) Q E s := by
  have hdrop : sizeOk (.seq #[x, y]) := by show (#[x, y] : Array Value).size ≤ sizeLine; exact Nat.le_of_ble_eq_true rfl
  obtain ⟨os, hos, hcs, hds⟩ := id hs
  have hTs : s.TypeIs (.ref sl) "slice" := ⟨os, hos, hcs⟩
  unfold getItem
  try with_reducible refine wpAny_holding ?_
  first | refine wpAny_bind (wpAny_pure ?_) | skip
  refine wpAny_bind (wpAny_sequenceKey ht.typeIs (by decide) ?_)
  refine wpAny_bind (wpAny_callSpecial?_slot (name := Str.ofString "__getitem__") ht.typeIs slot_tuple_getitem
    (wpAny_call_entry slot_tuple_getitem ht.typeIs entry_tuple_getitem ?_ (args_tuple_getitem _ _)))
  show wpAny _ _ (Builtin.Tuple.tupleItemsOf (.ref t) >>= _) _ _ s
  refine wpAny_bind (tupleItemsOf_ ht ?_)
  refine wpAny_bind (wpAny_typeOf hTs ?_)
  rw [if_pos (by decide)]
  refine wpAny_bind (sliceApplied_two hs ?_)
  show wpAny _ _ (if ((0 : Int) == 0 && (1 : Int) == 1 && (2 : Nat) == 3) = true then _ else _) _ _ s
  rw [if_neg (by decide)]
  have e : ((List.range 2).filterMap fun (k : Nat) => (#[x, y, z] : Array Value)[((0 : Int) + (k : Int) * 1).toNat]?).toArray = #[x, y] := rfl
  first
    | exact wpAny_bind (m := Builtin.Tuple.tupleExact _) (wpAny_newObj_type (wpAny_pure ⟨_, rfl, wpAny_pure h⟩) hdrop)
    | exact wpAny_bind (m := Builtin.Tuple.tupleExact _) (wpAny_newObj_type (wpAny_bind (wpAny_pure (wpAny_pure ⟨_, rfl, wpAny_pure h⟩))) hdrop)
    | exact wpAny_bind (wpAny_bind (m := Builtin.Tuple.tupleExact _) (wpAny_newObj_type (wpAny_pure (wpAny_pure ⟨_, rfl, wpAny_pure h⟩)) hdrop))
    | exact wpAny_bind (wpAny_bind (m := Builtin.Tuple.tupleExact _) (wpAny_newObj_type (wpAny_pure ⟨_, rfl, wpAny_pure h⟩) hdrop))
theorem slice_tup3 {value slice : PySem.Expr} {t : Addr} {x y z : Value} {u : Tok} {Q : Value → Shared → Prop}
    (F : Fr h₀ L s.heap m) (N : News h₀ L s.heap news) (ht : (t, ({ cls := .type "tuple", data := .seq #[x, y, z] } : Obj)) ∈ news)
    (h : ∀ D h', Fr h₀ L h' m → News h₀ L h' ((D, { cls := .type "tuple", data := .seq #[x, y] }) :: news) → (∀ p ∈ news, p.1 < D) → Q (.ref D) { s with heap := h' })
    (hs : subscripted slice false (.ref t) (.ref s.heap.objs.size) = operate [.ref s.heap.objs.size, .ref t] (getItem (.ref t) (.ref s.heap.objs.size)))
    (hg : ∀ r, letTemporaryGo value (.ref t) r = pure ()) :
    wpAny (model prog w) A (subscriptTail value slice (.ref t) (.ref s.heap.objs.size)) Q E { s with heap := s.heap.push { cls := .type "slice", data := .fields #[.none, .int 2 u, .none] } } := by
  have ht0 : IsTup s.heap t #[x, y, z] := ⟨_, (N _ ht).1, rfl, _, rfl⟩
  have ht' : IsTup (s.heap.push { cls := .type "slice", data := .fields #[.none, .int 2 u, .none] }) t #[x, y, z] := ht0.keeps fun _ _ e => Heap.get?_push_of_some _ e
  refine subscriptTail_ops (s := { s with heap := s.heap.push { cls := .type "slice", data := .fields #[.none, .int 2 u, .none] } }) ht'.typeIs slot_tuple_getitem.lookup
    (getItem_tuple_two ht' (Heap.IsSliceOf.new ..) ?_) hs hg
  have N1 := News.push (F.push { cls := .type "slice", data := .fields #[.none, .int 2 u, .none] }) (N.grown fun _ _ e => Heap.get?_push_of_some _ e) { cls := .type "tuple", data := .seq #[x, y] }
  rw [Heap.size_push] at N1
  show Q (.ref (s.heap.push _).objs.size) _
  rw [Heap.size_push]
  exact h _ _ ((F.push _).push _) N1 (fun p hp => Nat.lt_succ_of_lt (Heap.lt_size (N p hp).1))
end
end
section
theorem clear_TldB : True := by k_with_none; trivial
open PySem PySem.Calls PySem.W PyProof.Rows PySem.Spec
set_option maxRecDepth 100000
set_option maxHeartbeats 8000000
theorem fillT : True := by
  have h2 : (hd.heap_1 = hd.heap_1 ∧ PySem.Challenge.rw_mq0203_02 = PySem.Challenge.rw_mq0203_02) → True := fun _ => trivial
  apply h2
  k_fill
  exact ⟨rfl, rfl⟩
set_option pp.deepTerms false
set_option pp.deepTerms.threshold 6
section
variable {w : World} {p : Program} {loose : List Str} {mean : ExcName → Option Value} {mg mb : Str → Option Value} {dp un : Nat} {gd : Option (List Code)} {cn : Str} {cs : Scope} {a : Addr} {ccd : Value} {cl : List (Str × Addr)} {outer : List Env} {A₀ : Around} {base h₀ : Heap} {L : Addr} {m : Str → Option Value} {news : List (Addr × Obj)} {s : Shared} {Q E : Value → Shared → Prop}
theorem lyne_TldB_1 : True := by
  k_with "k_all!" => with_reducible assumption
  trivial
theorem line_TldB_1 : True := by
  k_with "execs cons!" => (k_here; (with_reducible refine wpAny_gen1 ?_); intro _ _)
  trivial
theorem news_eq {h₀ h : Heap} {L : Addr} {l : List (Addr × Obj)} (N : News h₀ L h l) : ∃ l', l' = l ∧ News h₀ L h l' := ⟨l, rfl, N⟩
theorem ints_get : ∀ {vs : List Value} {gs : List Int} {i : Nat} {v : Value}, IntsAre vs gs → vs[i]? = some v → ∃ g t, v = .int g t ∧ gs[i]? = some g
  | _, _, i, v, .nil, h => by rw [List.getElem?_nil] at h; exact nomatch h
  | _, _, 0, v, .cons .., h => ⟨_, _, (Option.some.inj h).symm, rfl⟩
  | _, _, i + 1, v, .cons _ _ hs, h => by
    rw [List.getElem?_cons_succ] at h
    obtain ⟨g, t, e1, e2⟩ := ints_get hs h
    exact ⟨g, t, e1, by rw [List.getElem?_cons_succ]; exact e2⟩
structure Col where
  a : Addr
  x : UInt64
  y : UInt64
  z : UInt64
  u : Tok
  v : Tok
  w : Tok
  pu : @LT.lt Nat _ 0 u
  pv : @LT.lt Nat _ 0 v
  pw : @LT.lt Nat _ 0 w
noncomputable abbrev Col.o (c : Col) : Addr × Obj := (c.a, tup3 (.float c.x c.u) (.float c.y c.v) (.float c.z c.w))
theorem lam_end {D : Addr} {x y z y1 y2 y3 : UInt64} {t1 t2 t3 : Tok} {g : Int} {h₀ h' : Heap} {L : Addr} {l : List (Addr × Obj)} {q1 q2 q3 q4 q5 : Addr × Obj} (N : News h₀ L h' ((D, tup3 (.float y1 t1) (.float y2 t2) (.float y3 t3)) :: q1 :: q2 :: q3 :: q4 :: q5 :: l)) (e1 : y1 = stepF x g) (e2 : y2 = stepF y g) (e3 : y3 = stepF z g)
    (p1 : @LT.lt Nat _ 0 t1) (p2 : @LT.lt Nat _ 0 t2) (p3 : @LT.lt Nat _ 0 t3) (lt : AllLt D l) : ∃ c' : Col, c'.a = D ∧ News h₀ L h' ([c'.o] ++ l) ∧ c'.x = stepF x g ∧ c'.y = stepF y g ∧ c'.z = stepF z g ∧ ∀ q ∈ l, ∀ q' ∈ [c'.o], @LT.lt Nat _ q.1 q'.1 :=
  ⟨⟨D, y1, y2, y3, t1, t2, t3, p1, p2, p3⟩, rfl, N.perm (fun q hq => by
    rcases List.mem_cons.mp hq with rfl | hq
    · exact List.mem_cons_self
    · exact List.mem_cons_of_mem _ (List.mem_cons_of_mem _ (List.mem_cons_of_mem _ (List.mem_cons_of_mem _ (List.mem_cons_of_mem _ (List.mem_cons_of_mem _ hq)))))), e1, e2, e3, fun q hq q' hq' => by rw [List.mem_singleton.mp hq']; exact lt_all lt q hq⟩
theorem take_fold {x : UInt64} {gs : List Int} {g : Int} {i : Nat} (h : gs.take (i + 1) = gs.take i ++ [g]) : (gs.take (i + 1)).foldl stepF x = stepF ((gs.take i).foldl stepF x) g := by
  rw [h, List.foldl_append]; rfl
noncomputable abbrev lamTab (pos : Pos) (c' : Addr) : Obj := tabObj (#[] ++ #[rawInt pos.line, rawInt pos.col, .ref c'])
/-- a code table with room for one lambda: empty, or filled -/
noncomputable def LamTab (pos : Pos) (qual : Str) (tab : Obj) (news : List (Addr × Obj)) : Prop :=
  tab = tabObj #[] ∨ ∃ (c' : Addr) (oc' : Obj) (vs' : Array Value) (tt : Tok), (c', oc') ∈ news ∧ oc'.data = Data.fields vs' ∧ vs'[1]? = some (.str qual tt) ∧ tab = lamTab pos c'
theorem tri_ok {pos : Pos} {c' : Addr} : TriplesOk (#[] ++ #[rawInt pos.line, rawInt pos.col, Value.ref c']).toList := by simp [TriplesOk, rawInt]
theorem among_hit {pos : Pos} {c' : Addr} : codeAmong pos (#[] ++ #[rawInt pos.line, rawInt pos.col, Value.ref c']).toList = some (.ref c') := by simp [codeAmong, rawInt]
theorem kla_either {M : Model} {A : Around} {c P : Addr} {name qual : Str} {params : Arguments} {body : PySem.Expr} {scope : Scope} {pos : Pos} {firstLine : Nat} {clos : List (Str × Addr)} {tab : Obj} {T1 : List (Addr × Obj)} (F : Fr h₀ L s.heap m) (N : News h₀ L s.heap ((P, tab) :: news)) (T : Top p loose mean mg mb h₀) (C : CodeHd h₀ c P) (hcd : ccd = .ref c) (ht : LamTab pos qual tab T1) (sub1 : ∀ q ∈ T1, q ∈ news) (off : ∀ p ∈ news, p.1 ≠ P)
    (hcl : closureFor scope (envX cn cs L a ccd cl) = pure clos)
    (h : ∀ f c' oc vs t ctv h' tk, Fr h₀ L h' m →
      News h₀ L h' ((f, kla_obj name qual params body scope clos ((mg "__name__").getD .none) c' ctv) :: (c', oc) :: (P, lamTab pos c') :: news) →
      oc.data = .fields vs → vs[1]? = some (.str qual t) → (∀ q ∈ news, q.1 < f) → ((∀ q ∈ news, q.1 < c') ∨ (c', oc) ∈ T1) → Q (.ref f) { s with heap := h', toks := tk }) :
    wpAny M A (makeFunction name qual params (.expr body) scope (envX cn cs L a ccd cl) [] [] [] pos firstLine) Q E s := by
  rcases ht with rfl | ⟨c', oc', vs', tt, hc, d1, d2, rfl⟩
  · refine kla_nest F N T C hcd (UpdF.head off) (by first | exact True.intro | (simp [TriplesOk]; done)) (by simp [codeAmong]) hcl fun f c' oc vs t ctv h' tk F' N' e1 e2 l1 l2 => ?_
    have l3 : ∀ q ∈ news, q.1 < c' := fun q hq => l1 q (List.mem_cons_of_mem _ hq)
    exact h f c' oc vs t ctv h' tk F' N' e1 e2 (fun q hq => Nat.lt_trans (l3 q hq) l2) (.inl l3)
  · refine kla_hit F N T C hcd List.mem_cons_self tri_ok among_hit hcl fun f ctv h' tk F' N' l1 => ?_
    refine h f c' oc' vs' tt ctv h' tk F' (N'.perm fun q hq => ?_) d1 d2 (fun q hq => l1 q (List.mem_cons_of_mem _ hq)) (.inr hc)
    rcases List.mem_cons.mp hq with rfl | hq
    · exact List.mem_cons_self
    · rcases List.mem_cons.mp hq with rfl | hq
      · exact List.mem_cons_of_mem _ (List.mem_cons_of_mem _ (sub1 _ hc))
      · exact List.mem_cons_of_mem _ hq
theorem lyne_TldB_2 : True := by
  k_with "k_dflt_done!" => first | with_reducible assumption | with_reducible exact List.mem_cons_self | (with_reducible refine List.mem_cons_of_mem _ ?_; k_dflt done)
  trivial
theorem line_TldB_2 : True := by
  k_with "eval Lambda!" => (k_here; kn_here; k_dflt (refine' kla_eval ?d0 ?_; (case d0 => exact rfl)); k_dflt (refine' kla_either ?F ?N ?T ?C ?cd ?t ?sub ?off ?cl ?_; (case sub => assumption); (case F => k_asm); (case N => k_asm); (case T => k_asm); (case cd => exact rfl); (case C => kn_code); (case t => assumption); (case off => assumption); (case cl => exact rfl)); intro f7 c7 oc7 vs7 t7 ct7 h7 tk7 F7 N7 d71 d72 l71 l72)
  trivial
theorem line_TldB_3 : True := by
  k_with "call ref!" => (k_here; (show wpAny _ _ (call (Value.ref 63) _) _ _ _); k_dflt (refine' c_step ?B ?F ?X ?N ?T ?hk ?px ?g0 ?g9 ?hd ?hu ?_; (case B => k_asm); (case F => k_asm); (case X => k_asm); (case N => k_asm); (case T => k_asm); (case hk => rfl); (case px => with_reducible assumption); (case g0 => with_reducible assumption); (case g9 => with_reducible assumption); (case hd => ktr_room); (case hu => ktr_units)); rintro y5 t5 h5 tk5 e5 F5 N5 p5)
  trivial
theorem line_TldB_4 : True := by
  k_with "call ref!" => (k_here; (show wpAny _ _ (call (Value.ref 51) _) _ _ _); refine stp ?_)
  trivial
theorem line_TldB_5 : True := by
  k_with "eval ListComp!" => (k_here; k_dflt (refine ListComp_T (F₀ := by k_asm) (by rfl) (by decide) (by rfl) (by decide) (by rfl) ?_))
  trivial
theorem line_TldB_6 : True := by
  k_with "CompSrcTup!" => (k_here; k_dflt (refine CompSrcTup.intro (by rfl) (by k_asm) (by k_asm) (by k_mem) rfl rfl (by first | size_fits | exact Nat.le_of_ble_eq_true rfl) ?_; intro g'; lcg_lit))
  trivial
theorem line_TldB_7 : True := by
  k_with "CompRest!" => (with_unfolding_all first
    | (refine LCg.CompRest.succ ?_; intro v9 I9 oI9 C9 oC9 D9 m9 h9 tk9 E9 hv9 hC9 hx9 F9 N9 off9 ne9; (lcg_open hv9); (try simp only [LCg.Off3, and_true] at off9))
    | refine LCg.CompRest.zero ?_)
  trivial
theorem line_TldB_8 : True := by
  k_with "CompEnd!" => (k_dflt (refine LCg.CompEnd.intro (by k_asm) (by k_asm) _ (fun p hp => hp) (by exact off9) (Or.inr ⟨_, by k_mem, rfl, _, rfl⟩) ?_); clear off9)
  trivial
structure HlsOk (x y z : UInt64) : Prop where
  g1 : eqF (min3F x y z) (max3F x y z) = false → Float64.isZero (Float64.sub (max3F x y z) (min3F x y z)) = false
  g2 : eqF (min3F x y z) (max3F x y z) = false → lowF (lightF (max3F x y z) (min3F x y z)) = true → Float64.isZero (Float64.add (max3F x y z) (min3F x y z)) = false
  g3 : eqF (min3F x y z) (max3F x y z) = false → lowF (lightF (max3F x y z) (min3F x y z)) = false → Float64.isZero (Float64.sub (Float64.sub 4611686018427387904 (max3F x y z)) (min3F x y z)) = false
structure HsvOk (x y z : UInt64) : Prop where
  g1 : eqF (min3F x y z) (max3F x y z) = false → Float64.isZero (Float64.sub (max3F x y z) (min3F x y z)) = false
  g2 : eqF (min3F x y z) (max3F x y z) = false → Float64.isZero (max3F x y z) = false
theorem line_TldB_9 : True := by
  k_with "call ref!" => (k_here; (show wpAny _ _ (call (Value.ref 21) _) _ _ _); k_dflt (refine' c_hls ?B ?F ?X ?N ?T ?hk ?px ?py ?pz ?hd ?hu ?g1 ?g2 ?g3 ?_; (case B => k_asm); (case F => k_asm); (case X => k_asm); (case N => k_asm); (case T => k_asm); (case hk => rfl); (case px => with_reducible first | assumption | exact Nat.succ_pos _); (case py => with_reducible first | assumption | exact Nat.succ_pos _); (case pz => with_reducible first | assumption | exact Nat.succ_pos _); (case hd => ktr_room); (case hu => ktr_units); (case g1 => exact HlsOk.g1 (by with_reducible assumption)); (case g2 => exact HlsOk.g2 (by with_reducible assumption)); (case g3 => exact HlsOk.g3 (by with_reducible assumption))); intro r6 g6 b6 D6 u6 v6 w6 h6 tk6 e6 F6 N6 lt6 p6 q6 s6; (try k_lt lt6))
  trivial
theorem line_TldB_10 : True := by
  k_with "call ref!" => (k_here; (show wpAny _ _ (call (Value.ref 28) _) _ _ _); k_dflt (refine' c_hsv ?B ?F ?X ?N ?T ?hk ?px ?py ?pz ?hd ?hu ?g1 ?g2 ?_; (case B => k_asm); (case F => k_asm); (case X => k_asm); (case N => k_asm); (case T => k_asm); (case hk => rfl); (case px => with_reducible assumption); (case py => with_reducible assumption); (case pz => with_reducible assumption); (case hd => ktr_room); (case hu => ktr_units); (case g1 => exact HsvOk.g1 (by with_reducible assumption)); (case g2 => exact HsvOk.g2 (by with_reducible assumption))); intro r6 g6 b6 D6 u6 v6 w6 h6 tk6 e6 F6 N6 lt6 p6 q6 s6; (try k_lt lt6))
  trivial
theorem line_TldB_11 : True := by
  k_with "binaryOp Add ref ref!" => (k_here; (with_reducible show wpAny _ _ (binaryOp _ (Value.ref _) (Value.ref _)) _ _ _); k_dflt (refine' kmk_add_lit ?F ?N ?a ?b ?e ?_ ?z; (case F => k_asm); (case N => k_asm); (case a => exact lst_of (by k_asm) (by k_dflt done)); (case b => exact lst_of (by k_asm) (by k_dflt done)); (case e => exact rfl); (case z => exact hzT)); intro Da ha Fa Na la; (try k_lt la))
  trivial
theorem line_TldB_12 : True := by
  k_with "subscriptTail Name Slice ref ref!" => (k_here; (with_reducible show wpAny _ _ (subscriptTail _ (PySem.Expr.Slice none (some _) none _) (Value.ref _) (Value.ref _)) _ _ _); k_dflt (refine' slice_tup3 ?F ?N ?t ?_ ?s ?g; (case F => k_asm); (case N => k_asm); (case t => k_mem); (case s => with_unfolding_all rfl); (case g => kmk_pure)); intro Ds hs Fs Ns ls; (try k_lt ls))
  trivial
theorem told_drop {a1 a2 a3 a4 a5 x1 x2 x3 x4 x5 x6 x7 x8 x9 c d t : Addr × Obj} {T9 news : List (Addr × Obj)} (hd : d ∈ T9) (ht : t ∈ T9) (hn : ∀ q ∈ news, q ∈ T9) : ∀ p ∈ a1 :: a2 :: a3 :: a4 :: a5 :: c :: d :: t :: news, p ∈ a1 :: a2 :: a3 :: a4 :: a5 :: x1 :: x2 :: x3 :: x4 :: x5 :: x6 :: x7 :: c :: x8 :: x9 :: T9 := fun p hp => by
  simp only [List.mem_cons] at hp ⊢
  rcases hp with h | h | h | h | h | h | h | h | h
  · simp only [h, true_or, or_true]
  · simp only [h, true_or, or_true]
  · simp only [h, true_or, or_true]
  · simp only [h, true_or, or_true]
  · simp only [h, true_or, or_true]
  · simp only [h, true_or, or_true]
  · subst h; simp only [hd, or_true]
  · subst h; simp only [ht, or_true]
  · simp only [hn p h, or_true]
theorem k_stepC {w : World} {x : UInt64} {g : Int} {tx tg : Tok} (px : @LT.lt Nat _ 0 tx) (g0 : 0 ≤ g) (g9 : g ≤ 9) : CallK w 1 8 (.ref 63) [.float x tx, .int g tg] (fun _ => True) (fun r fresh => fresh = [] ∧ ∃ t, @LT.lt Nat _ 0 t ∧ r = .float (stepF x g) t) := by
  intro p loose mean mg mb dp un gd cn cs a ccd cl outer A₀ base h₀ L m news s Q E B F X N T hk hdp hun _ hret
  refine c_step B F X N T hk px g0 g9 hdp hun fun y t1 h' tk' e F' N' pt => ?_
  subst e
  exact hret _ [] h' tk' F' N' (fun _ _ _ h => nomatch h) ⟨rfl, t1, pt, rfl⟩
noncomputable def LgtInv (x0 : UInt64) (gs : List Int) (i : Nat) (acc : Value) (T : List (Addr × Obj)) : Prop := T = [] ∧ 1 ≤ i ∧ ∃ t, @LT.lt Nat _ 0 t ∧ acc = .float ((gs.take (i - 1)).foldl stepF x0) t
theorem c_light {x0 : UInt64} {t0 : Tok} {vs : List Value} {gs : List Int} {DL : Addr} {n : Nat} (pt : @LT.lt Nat _ 0 t0)
    (B : Below A₀ base outer h₀) (F : Fr h₀ L s.heap m) (X : (hd.heap_1 w.params).In h₀) (N : News h₀ L s.heap news) (mL : (DL, listOf (Value.float x0 t0 :: vs).toArray n) ∈ news) (hI : IntsAre vs gs) (hg : ∀ g ∈ gs, 0 ≤ g ∧ g ≤ 9) (T : Top p loose mean mg mb h₀) (hk : cs.kind = .function) (hdp : dp + 2 < recursionLimit) (hun : un + 16 < cLine)
    (hret : ∀ t h' tk', @LT.lt Nat _ 0 t → Fr h₀ L h' m → News h₀ L h' news → Q (.float (gs.foldl stepF x0) t) { s with heap := h', toks := tk' }) :
    wpAny (model PySem.Challenge.rw_mq0203_02.prog w) (ktrTop dp un gd cn cs L a ccd cl outer) (call (.ref 51) [.ref 63, .ref DL]) Q E s := by
  refine c_reduce2 (nd := 1) (nu := 8) (x0 := .float x0 t0) (LgtInv x0 gs) ?hfn ?hstep B F X N mL rfl ⟨rfl, Nat.le_refl _, t0, pt, rfl⟩ T hk hdp hun ?hret
  case hfn =>
    intro g h L m l N F X hs
    exact ⟨_, _, _, _, F.keep _ _ (X 63 _ (by rfl))⟩
  case hstep =>
    rintro i acc v T hv ⟨rfl, h1, t, ht, rfl⟩
    obtain ⟨j, rfl⟩ : ∃ j, i = j + 1 := ⟨i - 1, by omega⟩
    obtain ⟨g, tg, rfl, hgi⟩ := ints_get hI (i := j) (v := v) (by simpa using hv)
    obtain ⟨g0, g9⟩ := hg g (List.mem_of_getElem? hgi)
    have tk1 : gs.take (j + 1) = gs.take j ++ [g] := by rw [List.take_add_one, hgi]; rfl
    intro p loose mean mg mb dp un gd cn cs a ccd cl outer A₀ base h₀ L m news s Q E B F X N T hk hdp hun _ hret
    refine k_stepC ht g0 g9 B F X N T hk hdp hun trivial fun r fresh h' tk' F' N' lt ⟨e, t2, pt2, e2⟩ => hret r fresh h' tk' F' N' lt ?_
    subst e e2
    refine ⟨rfl, Nat.le_add_left _ _, t2, pt2, ?_⟩
    rw [Nat.add_sub_cancel, Nat.add_sub_cancel, take_fold tk1]
  case hret =>
    rintro r T h' tk' F' N' lt ⟨rfl, h1, t, ht, rfl⟩
    have e : (Value.float x0 t0 :: vs).toArray.size - 1 = gs.length := by rw [List.size_toArray, List.length_cons, hI.length]; rfl
    rw [e, List.take_length]
    exact hret t h' tk' ht F' N'
noncomputable abbrev qTold : Str := (Str.ofString "_law_told" ++ (".<locals>." : Str)) ++ Str.ofString "<lambda>"
theorem c_told {C0 : Col} {GL : Addr} {n : Nat} {vs : List Value} {gs : List Int} {tab : Obj} {TT : List (Addr × Obj)} (codeHd : CodeHd base 74 72) (off : ∀ p ∈ news, p.1 ≠ 72) (ht : LamTab ⟨124, 17, 124, 87⟩ qTold tab TT) (sub1 : ∀ q ∈ TT, q ∈ news)
    (B : Below A₀ base outer h₀) (F : Fr h₀ L s.heap m) (X : (hd.heap_1 w.params).In h₀) (N : News h₀ L s.heap ((72, tab) :: news)) (mL : (GL, listOf vs.toArray n) ∈ news) (hI : IntsAre vs gs) (mC : C0.o ∈ news) (hg : ∀ g ∈ gs, 0 ≤ g ∧ g ≤ 9) (h5 : gs.length ≤ 5) (H0 : HlsOk C0.x C0.y C0.z) (H1 : HlsOk (gs.foldl stepF C0.x) (gs.foldl stepF C0.y) (gs.foldl stepF C0.z)) (H2 : HsvOk (gs.foldl stepF C0.x) (gs.foldl stepF C0.y) (gs.foldl stepF C0.z)) (H3 : HlsOk (Float64.sub (Float64.ofInt 1) (gs.foldl stepF C0.x)) (Float64.sub (Float64.ofInt 1) (gs.foldl stepF C0.y)) (Float64.sub (Float64.ofInt 1) (gs.foldl stepF C0.z))) (T : Top p loose mean mg mb h₀) (hk : cs.kind = .function) (hdp : dp + 5 < recursionLimit) (hun : un + 64 < cLine)
    (hret : ∀ (D T1 T2 T3 T4 c' : Addr) (oc : Obj) (ws : Array Value) (tt : Tok) (C1 : Col) (l0 h1 l1 s1 h2 s2 v2 h3 l3 s3 : UInt64) (tl u1 u2 u3 u4 u5 u6 : Tok) (h' : Heap) (tk' : Nat),
      Fr h₀ L h' m → News h₀ L h' ((D, listOf #[.ref C1.a, .float (gs.foldl stepF l0) tl, .ref T1, .ref T2, .ref T3, .ref T4, .bool (Float64.cmp s3 s1 == some Ordering.eq)] 0) ::
        (T4, { cls := .type "tuple", data := .seq #[.float h3 u5, .float l3 u6] }) :: (T2, { cls := .type "tuple", data := .seq #[.float h2 u3, .float v2 u4] }) :: (T1, { cls := .type "tuple", data := .seq #[.float h1 u1, .float l1 u2] }) ::
        (T3, { cls := .type "tuple", data := .seq #[.bool (Float64.cmpInt s1 0 == some Ordering.eq), .bool (Float64.cmpInt s2 0 == some Ordering.eq)] }) :: C1.o :: (c', oc) :: (72, lamTab ⟨124, 17, 124, 87⟩ c') :: news) →
      oc.data = .fields ws → ws[1]? = some (.str qTold tt) → ((∀ q ∈ news, q.1 < c') ∨ (c', oc) ∈ TT) → (∀ q ∈ news, q.1 < D) → (∀ q ∈ news, q.1 < T1) →
      @LT.lt Nat _ 0 tl → @LT.lt Nat _ 0 u1 → @LT.lt Nat _ 0 u2 → @LT.lt Nat _ 0 u3 → @LT.lt Nat _ 0 u4 → @LT.lt Nat _ 0 u5 → @LT.lt Nat _ 0 u6 →
      C1.x = gs.foldl stepF C0.x → C1.y = gs.foldl stepF C0.y → C1.z = gs.foldl stepF C0.z → l0 = (hlsF C0.x C0.y C0.z).2.1 → hlsF C1.x C1.y C1.z = (h1, l1, s1) → hsvF C1.x C1.y C1.z = (h2, s2, v2) →
      hlsF (Float64.sub (Float64.ofInt 1) C1.x) (Float64.sub (Float64.ofInt 1) C1.y) (Float64.sub (Float64.ofInt 1) C1.z) = (h3, l3, s3) → Q (.ref D) { s with heap := h', toks := tk' }) :
    wpAny (model PySem.Challenge.rw_mq0203_02.prog w) (ktrTop dp un gd cn cs L a ccd cl outer) (call (.ref 75) [.ref C0.a, .ref GL]) Q E s := by
  refine wpAny_call ?_
  k_dflt cell_enter
  k_steps
  unfold Stp
  obtain ⟨l5, e5, N5⟩ := news_eq N7
  refine' c_reduce3 (nd := 3) (nu := 24) (fun i acc T => ∃ c : Col, acc = .ref c.a ∧ c.o ∈ T ++ l5 ∧ c.x = (gs.take i).foldl stepF C0.x ∧ c.y = (gs.take i).foldl stepF C0.y ∧ c.z = (gs.take i).foldl stepF C0.z) ?hfn ?hstep ?B F7 ?X N5 ?mL (oV := C0.o.2) ?mV ?h0 ?T ?hk ?hd ?hu ?hret
  case B => k_asm
  case X => k_asm
  case T => k_asm
  case hk => rfl
  case hd => ktr_room
  case hu => ktr_units
  case mL => subst e5; exact List.mem_cons_of_mem _ (List.mem_cons_of_mem _ (List.mem_cons_of_mem _ mL))
  case mV => subst e5; exact List.mem_cons_of_mem _ (List.mem_cons_of_mem _ (List.mem_cons_of_mem _ mC))
  case h0 => subst e5; exact ⟨C0, rfl, List.mem_cons_of_mem _ (List.mem_cons_of_mem _ (List.mem_cons_of_mem _ mC)), rfl, rfl, rfl⟩
  case hfn =>
    subst e5
    intro g h L m l N F X hs
    exact FnAt.of N (hs _ List.mem_cons_self)
  case hstep =>
    subst e5
    rintro i acc v T hv ⟨c, rfl, mc, ex, ey, ez⟩
    intro p loose mean mg mb dp un gd cn cs a ccd cl outer A₀ base h₀ L m l s Q E B F X N T' hk hdp hun hs hret
    obtain ⟨g, tg, rfl, hgi⟩ := ints_get hI (by simpa using hv)
    obtain ⟨g0, g9⟩ := hg g (List.mem_of_getElem? hgi)
    have mf := hs _ (List.mem_append_right T List.mem_cons_self)
    have mc7 := hs _ (List.mem_append_right T (List.mem_cons_of_mem _ List.mem_cons_self))
    have mcc := hs _ mc
    have tk1 : gs.take (i + 1) = gs.take i ++ [g] := by rw [List.take_add_one, hgi]; rfl
    have qu := c.pu
    have qv := c.pv
    have qw := c.pw
    have N := N.perm (news' := (c.a, tup3 (.float c.x c.u) (.float c.y c.v) (.float c.z c.w)) :: (f7, _) :: (c7, _) :: l) (fun q hq => by
      rcases List.mem_cons.mp hq with rfl | hq
      · exact mcc
      · rcases List.mem_cons.mp hq with rfl | hq
        · exact mf
        · rcases List.mem_cons.mp hq with rfl | hq
          · exact mc7
          · exact hq)
    refine wpAny_call ?_
    (refine' kla_codeC ?k1 ?k2 ?k3 ?k4 ?k5 ?kA ?kF ?kK ?k6 ?k7 ?k8 ?k9 ?kB ?kD ?_ ?c2 ?c3 ?c4; (case kA => exact rfl); (case kF => exact rfl); (case kK => assumption); (case k1 => k_asm); (case k2 => k_asm); (case k3 => k_asm); (case k4 => k_asm); (case k5 => k_asm); (case k6 => k_mem); (case k7 => exact codeRec_news (by k_asm) (by k_mem) (by assumption) (by assumption)); (case k8 => ktr_room); (case k9 => exact rfl); (case kB => exact rfl); (case kD => decide +kernel); (case c2 => exact rfl); (case c3 => exact rfl); (case c4 => exact rfl); k_whole; intro g' L' h' tk' cells' FG' F' N' Y' B' X' T' l1; (try k_lt l1); k_cells Y'; (try simp only [List.cons_append, List.nil_append] at N'); (try dsimp only); (try k_lift B'); (try k_fold))
    clear hs N7 F7 mc
    k_steps
    rename_i D8 h8 F8 N8 l8 kF kN Tc kX
    obtain ⟨c', rfl, N', e1, e2, e3, lt⟩ := lam_end kN (by assumption) (by assumption) (by assumption) (by assumption) (by assumption) (by assumption) l8.2.2.2.2.2
    refine hret _ _ _ _ kF N' lt ⟨c', rfl, List.mem_cons_self, ?_, ?_, ?_⟩
    · rw [take_fold tk1, e1, ex]
    · rw [take_fold tk1, e2, ey]
    · rw [take_fold tk1, e3, ez]
  case hret =>
    subst e5
    rintro r T h7 tk7 F7 N7 lt7 ⟨c, rfl, mc, ex, ey, ez⟩
    clear N5
    have hsz : vs.toArray.size = gs.length := by rw [List.size_toArray, hI.length]
    rw [hsz, List.take_length] at ex ey ez
    rw [← ex, ← ey, ← ez] at H1 H2 H3
    have hzT : (#[Value.float (hlsF C0.x C0.y C0.z).2.1 0] : Array Value).size + vs.toArray.size ≤ sizeLine := by rw [hsz, sizeLine_eq]; simp; omega
    have qu := C0.pu
    have qv := C0.pv
    have qw := C0.pw
    have ru := c.pu
    have rv := c.pv
    have rw' := c.pw
    have N9 := N7.perm (news' := (c.a, tup3 (.float c.x c.u) (.float c.y c.v) (.float c.z c.w)) :: (C0.a, tup3 (.float C0.x C0.u) (.float C0.y C0.v) (.float C0.z C0.w)) :: (GL, listOf vs.toArray n) :: _) (fun q hq => by
      rcases List.mem_cons.mp hq with rfl | hq
      · exact mc
      · rcases List.mem_cons.mp hq with rfl | hq
        · exact List.mem_append_right _ (List.mem_cons_of_mem _ (List.mem_cons_of_mem _ (List.mem_cons_of_mem _ mC)))
        · rcases List.mem_cons.mp hq with rfl | hq
          · exact List.mem_append_right _ (List.mem_cons_of_mem _ (List.mem_cons_of_mem _ (List.mem_cons_of_mem _ mL)))
          · exact hq)
    generalize hT9 : T ++ (f7, _) :: (c7, oc7) :: (72, _) :: news = T9 at N9 N7 mc lt7
    clear N7
    dsimp only
    k_steps
    unfold Stp
    k_dflt (refine' c_light (x0 := g6) (t0 := v6) (vs := vs) (gs := gs) q6 ?B Fa ?X Na ?mL hI hg ?T ?hk ?hd ?hu ?_)
    case B => k_asm
    case X => k_asm
    case T => k_asm
    case hk => rfl
    case hd => ktr_room
    case hu => ktr_units
    case mL => exact List.mem_cons_self
    intro tL hL tkL pL FL NL
    clear Na Fa
    k_steps
    rename_i l8 kF kN Tc kX
    clear lt7
    have m1 : (c7, oc7) ∈ T9 := hT9 ▸ List.mem_append_right _ (List.mem_cons_of_mem _ List.mem_cons_self)
    have m2 : (72, lamTab ⟨124, 17, 124, 87⟩ c7) ∈ T9 := hT9 ▸ List.mem_append_right _ (List.mem_cons_of_mem _ (List.mem_cons_of_mem _ List.mem_cons_self))
    have m3 : ∀ q ∈ news, q ∈ T9 := fun q hq => hT9 ▸ List.mem_append_right _ (List.mem_cons_of_mem _ (List.mem_cons_of_mem _ (List.mem_cons_of_mem _ hq)))
    clear hT9
    refine' hret _ _ _ _ _ c7 oc7 vs7 t7 c _ _ _ _ _ _ _ _ _ _ _ _ _ _ _ _ _ _ _ kF (kN.perm (told_drop m1 m2 m3)) d71 d72 l72 ?o1 ?o2 pL ?p1 ?p2 ?p3 ?p4 ?p5 ?p6 ex ey ez ?e0 ?e1 ?e2 ?e3
    case o1 => exact fun q hq => lt_all (And.right (And.right (And.right (And.right (And.right (And.right (And.right (And.right (And.right (And.right (And.right (And.right (And.right (And.right l8)))))))))))))) q (m3 q hq)
    case o2 => exact fun q hq => lt_all (And.right (And.right (And.right (And.right (And.right (And.right (And.right (And.right (And.right (And.right (And.right (by with_reducible assumption)))))))))))) q (m3 q hq)
    case p1 => with_reducible assumption
    case p2 => with_reducible assumption
    case p3 => with_reducible assumption
    case p4 => with_reducible assumption
    case p5 => with_reducible assumption
    case p6 => with_reducible assumption
    case e1 => with_reducible assumption
    case e2 => with_reducible assumption
    case e3 => with_reducible assumption
    case e0 => exact (congrArg (fun x => x.2.1) (show hlsF C0.x C0.y C0.z = _ by with_reducible assumption)).symm
end
end
section
theorem clear_PlB6 : True := by k_with_none; trivial
open PySem
open Float64
theorem fdiv_two (x : Int) : Int.fdiv (2 * x) 2 = x := by
  rw [Int.fdiv_eq_ediv_of_nonneg _ (by decide), Int.mul_ediv_cancel_left _ (by decide)]
theorem map_pw : ∀ {gs : List Int}, gs.length ≤ 5 → ∃ m : Nat, 5 - gs.length ≤ m ∧ ((mapB gs).1 = 2 ^ m ∨ (mapB gs).1 = -2 ^ m)
  | [], _ => ⟨5, Nat.le_refl _, .inl (by decide)⟩
  | g :: gs, h => by
    rw [List.length_cons] at h
    obtain ⟨m, hm, e⟩ := map_pw (gs := gs) (by omega)
    by_cases q : g = 9
    · refine ⟨m, by rw [List.length_cons]; omega, ?_⟩
      rw [(map_p9 q).1]
      rcases e with e | e
      · exact .inr (by rw [e])
      · exact .inl (by rw [e, Int.neg_neg])
    · obtain ⟨j, rfl⟩ : ∃ j, m = j + 1 := ⟨m - 1, by omega⟩
      refine ⟨j, by rw [List.length_cons]; omega, ?_⟩
      rw [(map_pg q).1]
      rcases e with e | e
      · exact .inl (by rw [e, Int.pow_succ, Int.mul_comm, fdiv_two])
      · exact .inr (by rw [e, Int.pow_succ, Int.mul_comm, ← Int.mul_neg, fdiv_two])
theorem map_nz {gs : List Int} (h : gs.length ≤ 5) : (mapB gs).1 ≠ 0 := by
  obtain ⟨m, _, e⟩ := map_pw h
  have p : (0 : Int) < 2 ^ m := Int.pow_pos (by decide)
  rcases e with e | e <;> omega
theorem gen9 {h s l : Int} (h0 : 0 ≤ h) (h1 : h < 16) (s0 : 0 ≤ s) (s1 : s ≤ 8) (l0 : 0 ≤ l) (l1 : l ≤ 8) : GenP 9 512 (64 * l) (l * s) h := by
  have p := prod_le l0 (Int.le_refl l) s0 s1
  refine ⟨by decide, by decide +kernel, by decide +kernel, by decide +kernel, by decide, h0, h1, p.1, by omega, by omega⟩
theorem part_ep {c h s l : Int} : partP c h s l = ep (64 * l) (l * s) c h := by
  unfold partP ep
  rw [Int.mul_sub, Int.mul_assoc, Int.mul_comm l 64]
/-- the numbers of the end's colour -/
theorem end_gen {h s l : Int} {gs : List Int} (h0 : 0 ≤ h) (h1 : h < 16) (s0 : 0 ≤ s) (s1 : s ≤ 8) (l0 : 0 ≤ l) (l1 : l ≤ 8) (hg : ∀ g ∈ gs, 0 ≤ g ∧ g ≤ 9) (h5 : gs.length ≤ 5) :
    ∃ L P H : Int, GenP 14 16384 L P H ∧ (∀ c, c = 0 ∨ c = 16 ∨ c = 32 → (mapB gs).1 * partP c h s l + 32 * (mapB gs).2 = ep L P c H) ∧ (P = 0 ↔ s * l = 0) ∧ 2 * L - P * 8 = (mapB gs).1 * (2 * (64 * l) - l * s * 8) + 64 * (mapB gs).2 ∧
      H = (h + if (mapB gs).1 < 0 then 8 else 0) % 16 ∧ (H + 8) % 16 = (h + if (mapB gs).1 < 0 then 0 else 8) % 16 := by
  have part := fun c => (end_part (part_b (c := c) (h := h) s0 s1 l0 l1) hg h5).2
  have nz := map_nz h5
  generalize (mapB gs).1 = S at *
  generalize (mapB gs).2 = F at *
  have ls0 := (prod_le l0 (Int.le_refl l) s0 s1).1
  have build : ∀ L P H : Int, 0 ≤ H → H < 16 → 0 ≤ P → (∀ c, c = 0 ∨ c = 16 ∨ c = 32 → S * partP c h s l + 32 * F = ep L P c H) → GenP 14 16384 L P H := by
    intro L P H H0 H1 P0 e
    obtain ⟨f0, f1, f2, e0, e1, e2, b0, b1, b2, hz, h8, Y, hY, hm⟩ := falls H0 H1
    have q0 := part 0
    have q1 := part 16
    have q2 := part 32
    rw [e 0 (.inl rfl)] at q0
    rw [e 16 (.inr (.inl rfl))] at q1
    rw [e 32 (.inr (.inr rfl))] at q2
    unfold ep at q0 q1 q2
    rw [e0] at q0
    rw [e1] at q1
    rw [e2] at q2
    have lo : 0 ≤ L - P * 8 := by
      rcases h8 with rfl | rfl | rfl
      · exact q0.n0
      · exact q1.n0
      · exact q2.n0
    have hi : L ≤ 16384 := by
      have t : ∀ x : Int, PartB (L - P * 0) 14 → L ≤ 16384 := fun _ q => by have := q.n1; rw [Int.mul_zero, Int.sub_zero] at this; exact this
      rcases hz with rfl | rfl | rfl
      · exact t 0 q0
      · exact t 0 q1
      · exact t 0 q2
    exact ⟨by decide, by decide +kernel, by decide +kernel, by decide +kernel, by decide, H0, H1, P0, lo, hi⟩
  by_cases neg : S < 0
  · have e : ∀ c, c = 0 ∨ c = 16 ∨ c = 32 → S * partP c h s l + 32 * F = ep (S * (64 * l) + 32 * F + (-S) * (l * s) * 8) ((-S) * (l * s)) c ((h + 8) % 16) := fun c hc => by
      rw [part_ep]
      unfold ep
      rw [fall_turned h0 h1 hc, Int.mul_sub, Int.mul_sub, Int.neg_mul, Int.neg_mul, Int.neg_mul, Int.mul_assoc S (l * s) (fall c h)]
      generalize S * (64 * l) = a
      generalize S * (l * s * fall c h) = b
      generalize S * (l * s) = d
      omega
    refine ⟨_, _, _, build _ _ _ (Int.emod_nonneg _ (by decide)) (Int.emod_lt_of_pos _ (by decide)) (Int.mul_nonneg (by omega) ls0) e, e, ?_, ?_, ?_, ?_⟩
    · rw [Int.mul_eq_zero]
      constructor
      · rintro (q | q)
        · omega
        · rw [Int.mul_comm]; exact q
      · intro q; rw [Int.mul_comm] at q; exact .inr q
    · rw [Int.mul_sub, Int.neg_mul, Int.mul_left_comm S 2 (64 * l), ← Int.mul_assoc S (l * s) 8]
      generalize S * (64 * l) = a
      generalize S * (l * s) = b
      omega
    · rw [if_pos neg]
    · rw [if_pos neg]; omega
  · have e : ∀ c, c = 0 ∨ c = 16 ∨ c = 32 → S * partP c h s l + 32 * F = ep (S * (64 * l) + 32 * F) (S * (l * s)) c h := fun c hc => by
      rw [part_ep]
      unfold ep
      rw [Int.mul_sub, Int.mul_assoc S (l * s) (fall c h)]
      generalize S * (64 * l) = a
      generalize S * (l * s * fall c h) = b
      omega
    refine ⟨_, _, _, build _ _ _ h0 h1 (Int.mul_nonneg (by omega) ls0) e, e, ?_, ?_, ?_, ?_⟩
    · rw [Int.mul_eq_zero]
      constructor
      · rintro (q | q)
        · exact absurd q nz
        · rw [Int.mul_comm]; exact q
      · intro q; rw [Int.mul_comm] at q; exact .inr q
    · rw [Int.mul_sub, Int.mul_left_comm S 2 (64 * l), ← Int.mul_assoc S (l * s) 8]
      generalize S * (64 * l) = a
      generalize S * (l * s) = b
      omega
    · rw [if_neg neg]; omega
    · rw [if_neg neg]
/-- a float that equals itself -/
noncomputable abbrev Fin1 (x : UInt64) : Prop := (cmp x x == some Ordering.eq) = true
theorem fin_fl {n : Int} {k : Nat} (hn : n.natAbs < 2 ^ 53) (hk : k ≤ 1000) : Fin1 (fl n k) := by
  unfold Fin1; rw [fl_cmp hn hn hk, Int.compare_eq_eq.mpr rfl]; rfl
theorem gen_hlsok {k : Nat} {O L P h : Int} (g : GenP k O L P h) : HlsOk (fl (ep L P 0 h) k) (fl (ep L P 16 h) k) (fl (ep L P 32 h) k) := by
  have e := gen_mx g
  have ne : eqF (fl (L - P * 8) k) (fl L k) = false → P ≠ 0 := fun q z => by rw [gen_eq g, z] at q; exact Bool.false_ne_true q.symm
  refine ⟨?_, ?_, ?_⟩
  · rw [e.1, e.2]; intro q; rw [gen_sub g]; exact (gen_nz g (ne q)).1
  · rw [e.1, e.2]; intro q _; rw [(gen_add g).1]; exact (gen_nz g (ne q)).2.1
  · rw [e.1, e.2]; intro q _; rw [(gen_two g).1]; exact (gen_nz g (ne q)).2.2.1
theorem gen_hsvok {k : Nat} {O L P h : Int} (g : GenP k O L P h) : HsvOk (fl (ep L P 0 h) k) (fl (ep L P 16 h) k) (fl (ep L P 32 h) k) := by
  have e := gen_mx g
  have ne : eqF (fl (L - P * 8) k) (fl L k) = false → P ≠ 0 := fun q z => by rw [gen_eq g, z] at q; exact Bool.false_ne_true q.symm
  refine ⟨?_, ?_⟩
  · rw [e.1, e.2]; intro q; rw [gen_sub g]; exact (gen_nz g (ne q)).1
  · rw [e.1, e.2]; intro q; exact (gen_nz g (ne q)).2.2.2
end
section
theorem clear_PlB7 : True := by k_with_none; trivial
open PySem
open Float64
theorem cz {x : UInt64} : (cmpInt x 0 == some Ordering.eq) = isZero x := (Flt.isZero_eq x).symm
section
variable {h s l : Int} {gs : List Int} (h0 : 0 ≤ h) (h1 : h < 16) (s0 : 0 ≤ s) (s1 : s ≤ 8) (l0 : 0 ≤ l) (l1 : l ≤ 8) (hg : ∀ g ∈ gs, 0 ≤ g ∧ g ≤ 9) (h5 : gs.length ≤ 5)
include h0 h1 s0 s1 l0 l1 hg h5
theorem fold_part (c : Int) : gs.foldl stepF (fl (partP c h s l) 9) = fl ((mapB gs).1 * partP c h s l + 32 * (mapB gs).2) 14 :=
  (end_part (part_b (c := c) (h := h) s0 s1 l0 l1) hg h5).1
theorem plain_pre : HlsOk (fl (partP 0 h s l) 9) (fl (partP 16 h s l) 9) (fl (partP 32 h s l) 9) ∧
    HlsOk (gs.foldl stepF (fl (partP 0 h s l) 9)) (gs.foldl stepF (fl (partP 16 h s l) 9)) (gs.foldl stepF (fl (partP 32 h s l) 9)) ∧
    HsvOk (gs.foldl stepF (fl (partP 0 h s l) 9)) (gs.foldl stepF (fl (partP 16 h s l) 9)) (gs.foldl stepF (fl (partP 32 h s l) 9)) ∧
    HlsOk (sub (ofInt 1) (gs.foldl stepF (fl (partP 0 h s l) 9))) (sub (ofInt 1) (gs.foldl stepF (fl (partP 16 h s l) 9))) (sub (ofInt 1) (gs.foldl stepF (fl (partP 32 h s l) 9))) := by
  obtain ⟨L, P, H, g, e, hP, hl, hH, hH2⟩ := end_gen h0 h1 s0 s1 l0 l1 hg h5
  have f := fold_part h0 h1 s0 s1 l0 l1 hg h5
  rw [f 0, f 16, f 32, e 0 (.inl rfl), e 16 (.inr (.inl rfl)), e 32 (.inr (.inr rfl))]
  refine ⟨?_, gen_hlsok g, gen_hsvok g, ?_⟩
  · rw [part_ep, part_ep, part_ep]; exact gen_hlsok (gen9 h0 h1 s0 s1 l0 l1)
  · rw [ep_other g (.inl rfl), ep_other g (.inr (.inl rfl)), ep_other g (.inr (.inr rfl))]; exact gen_hlsok g.other
/-- the light of the end -/
noncomputable abbrev lightE (s l : Int) (gs : List Int) : UInt64 := fl ((mapB gs).1 * (2 * (64 * l) - l * s * 8) + 64 * (mapB gs).2) 15
/-- a hue told and a hue due are alike -/
noncomputable def HueEq (x : UInt64) (v : Value) : Prop := (x = 0 ∧ ∃ t, v = .int 0 t) ∨ ∃ t, @LT.lt Nat _ 0 t ∧ v = .float x t ∧ Fin1 x
structure Alike (p0 p1 p2 : UInt64) (x y z le l1 h1 h2 v2 h3 l3 s1 s2 s3 L1 : UInt64) (b : Bool) (vt vb : Value) : Prop where
  ex : x = p0
  ey : y = p1
  ez : z = p2
  ele : le = L1
  el1 : l1 = L1
  eL : div (add (max3F p0 p1 p2) (min3F p0 p1 p2)) (ofInt 2) = L1
  eh1 : HueEq h1 vt
  eh2 : HueEq h2 vt
  ev2 : v2 = max3F p0 p1 p2
  eh3 : HueEq h3 vb
  el3 : l3 = sub (ofInt 1) L1
  es1 : (cmpInt s1 0 == some Ordering.eq) = b
  es2 : (cmpInt s2 0 == some Ordering.eq) = b
  es3 : (cmp s3 s1 == some Ordering.eq) = true
  efp0 : Fin1 p0
  efp1 : Fin1 p1
  efp2 : Fin1 p2
  efL : Fin1 L1
  efm : Fin1 (max3F p0 p1 p2)
  efl : Fin1 (sub (ofInt 1) L1)
theorem hue_eq {P y : Int} {H : Int} {v : Value} (hP : P = 0 ↔ s * l = 0) (e : H = y % 16) (hv : HueV s l y v) (H0 : 0 ≤ H) (H1 : H < 16) : HueEq (if P = 0 then (0 : UInt64) else fl H 4) v := by
  clear h0 h1 s0 s1 l0 l1 hg h5
  rcases hv with ⟨z, t, rfl⟩ | ⟨z, t, pt, rfl⟩
  · rw [if_pos (hP.mpr z)]; exact .inl ⟨rfl, t, rfl⟩
  · rw [if_neg (fun q => z (hP.mp q))]
    exact .inr ⟨t, pt, by rw [e], fin_fl (nn H0 (by omega)) (by decide)⟩
theorem plain_eq {le0 ha la sa hb sb vb2 hc lc sc : UInt64} {p0 p1 p2 x y z : UInt64} {vt vb : Value}
    (ex : x = gs.foldl stepF (fl (partP 0 h s l) 9)) (ey : y = gs.foldl stepF (fl (partP 16 h s l) 9)) (ez : z = gs.foldl stepF (fl (partP 32 h s l) 9)) (e0 : le0 = (hlsF (fl (partP 0 h s l) 9) (fl (partP 16 h s l) 9) (fl (partP 32 h s l) 9)).2.1)
    (e1 : hlsF x y z = (ha, la, sa)) (e2 : hsvF x y z = (hb, sb, vb2)) (e3 : hlsF (sub (ofInt 1) x) (sub (ofInt 1) y) (sub (ofInt 1) z) = (hc, lc, sc))
    (q0 : fl ((mapB gs).1 * partP 0 h s l + 32 * (mapB gs).2) 14 = p0) (q1 : fl ((mapB gs).1 * partP 16 h s l + 32 * (mapB gs).2) 14 = p1) (q2 : fl ((mapB gs).1 * partP 32 h s l + 32 * (mapB gs).2) 14 = p2)
    (ht : HueV s l (h + if (mapB gs).1 < 0 then 8 else 0) vt) (hv : HueV s l (h + if (mapB gs).1 < 0 then 0 else 8) vb) :
    Alike p0 p1 p2 x y z (gs.foldl stepF le0) la ha hb vb2 hc lc sa sb sc (lightE s l gs) (s * l == 0) vt vb := by
  obtain ⟨L, P, H, g, e, hP, hl, hH, hH2⟩ := end_gen h0 h1 s0 s1 l0 l1 hg h5
  have f := fold_part h0 h1 s0 s1 l0 l1 hg h5
  have xp : x = p0 := ex.trans ((f 0).trans q0)
  have yp : y = p1 := ey.trans ((f 16).trans q1)
  have zp : z = p2 := ez.trans ((f 32).trans q2)
  rw [e 0 (.inl rfl)] at q0
  rw [e 16 (.inr (.inl rfl))] at q1
  rw [e 32 (.inr (.inr rfl))] at q2
  subst xp yp zp
  subst q0 q1 q2
  have m := gen_mx g
  have go := g.other
  rw [gen_hls g] at e1
  rw [gen_hsv g] at e2
  rw [ep_other g (.inl rfl), ep_other g (.inr (.inl rfl)), ep_other g (.inr (.inr rfl)), gen_hls go] at e3
  obtain ⟨rfl, rfl, rfl⟩ : (if P = 0 then (0 : UInt64) else fl H 4) = ha ∧ fl (2 * L - P * 8) (14 + 1) = la ∧ _ = sa := by
    simp only [Prod.mk.injEq] at e1; exact e1
  obtain ⟨rfl, rfl, rfl⟩ : (if P = 0 then (0 : UInt64) else fl H 4) = hb ∧ (if P = 0 then (0 : UInt64) else div (fl (P * 8) 14) (fl L 14)) = sb ∧ fl L 14 = vb2 := by
    simp only [Prod.mk.injEq] at e2; exact e2
  obtain ⟨rfl, rfl, rfl⟩ : (if P = 0 then (0 : UInt64) else fl ((H + 8) % 16) 4) = hc ∧ fl (2 * (16384 - L + P * 8) - P * 8) (14 + 1) = lc ∧ _ = sc := by
    simp only [Prod.mk.injEq] at e3; exact e3
  have lE : fl (2 * L - P * 8) (14 + 1) = lightE s l gs := by unfold lightE; rw [hl]
  have gl := gen_light g
  have ga := (gen_add g).2.1
  have k3 : (14 : Nat) ≤ 1000 := by decide
  have hdiv : div (add (fl L 14) (fl (L - P * 8) 14)) (ofInt 2) = lightE s l gs := by
    rw [← lE, ← gl]; unfold lightF; rw [show ofInt 2 = (4611686018427387904 : UInt64) by decide +kernel]
  have l3e : fl (2 * (16384 - L + P * 8) - P * 8) (14 + 1) = sub (ofInt 1) (lightE s l gs) := by
    have a1 := g.lo
    have a2 := g.hi
    have a3 := g.p0
    rw [← lE, show ofInt 1 = fl 32768 (14 + 1) by decide +kernel, fl_sub (by decide) (u53 ga) (nn (by omega) (by omega)) (by decide)]
    congr 1; omega
  have c9 := gen9 h0 h1 s0 s1 l0 l1
  have le0e : le0 = fl (2 * (64 * l) - l * s * 8) 10 := by
    rw [e0, part_ep, part_ep, part_ep, gen_hls c9]
  have pl : PartL (2 * (64 * l) - l * s * 8) 10 := ⟨(gen_add c9).2.2, by have := c9.hi; have := c9.p0; show _ ≤ (1024 : Int); omega, by decide, by decide⟩
  refine ⟨rfl, rfl, rfl, ?_, lE, ?_, hue_eq h0 h1 s0 s1 l0 l1 hg h5 hP hH ht g.h0 g.h1, hue_eq h0 h1 s0 s1 l0 l1 hg h5 hP hH ht g.h0 g.h1, m.1.symm, ?_, l3e, ?_, ?_, ?_, ?_, ?_, ?_, ?_, ?_, ?_⟩
  · rw [le0e]; exact end_light pl hg h5
  · rw [m.1, m.2]; exact hdiv
  · exact hue_eq h0 h1 s0 s1 l0 l1 hg h5 hP hH2 hv go.h0 go.h1
  · rw [cz]
    by_cases hp : P = 0
    · rw [if_pos hp, beq_iff_eq.mpr (hP.mp hp)]; decide +kernel
    · rw [if_neg hp, beq_eq_false_iff_ne.mpr (fun q => hp (hP.mpr q))]
      obtain ⟨t, t0, t1, et⟩ := gen_sat g hp
      rw [et]; exact pack_nz t0 t1
  · rw [cz]
    by_cases hp : P = 0
    · rw [if_pos hp, beq_iff_eq.mpr (hP.mp hp)]; decide +kernel
    · rw [if_neg hp, beq_eq_false_iff_ne.mpr (fun q => hp (hP.mpr q))]
      obtain ⟨t, t0, t1, et⟩ := gen_sat2 g hp
      rw [et]; exact pack_nz t0 t1
  · by_cases hp : P = 0
    · rw [if_pos hp, if_pos hp]; decide +kernel
    · rw [if_neg hp, if_neg hp]
      have es : (if 2 * (16384 - L + P * 8) - P * 8 ≤ 16384 then div (fl (P * 8) 14) (fl (2 * (16384 - L + P * 8) - P * 8) 14) else div (fl (P * 8) 14) (fl (2 * 16384 - (2 * (16384 - L + P * 8) - P * 8)) 14)) = if 2 * L - P * 8 ≤ 16384 then div (fl (P * 8) 14) (fl (2 * L - P * 8) 14) else div (fl (P * 8) 14) (fl (2 * 16384 - (2 * L - P * 8)) 14) := by
        rw [show 2 * 16384 - (2 * (16384 - L + P * 8) - P * 8) = 2 * L - P * 8 by omega]
        rw [show 2 * (16384 - L + P * 8) - P * 8 = 2 * 16384 - (2 * L - P * 8) by omega]
        by_cases a : 2 * L - P * 8 ≤ 16384
        · by_cases b : 2 * 16384 - (2 * L - P * 8) ≤ 16384
          · rw [if_pos a, if_pos b, show 2 * 16384 - (2 * L - P * 8) = 2 * L - P * 8 by omega]
          · rw [if_pos a, if_neg b]
        · rw [if_neg a, if_pos (by omega)]
      rw [es]
      obtain ⟨t, t0, t1, et⟩ := gen_sat g hp
      rw [et]; exact pack_eq t1
  · exact fin_fl (u53 (g.eb 0)) k3
  · exact fin_fl (u53 (g.eb 16)) k3
  · exact fin_fl (u53 (g.eb 32)) k3
  · rw [← lE]; exact fin_fl (u53 ga) (by decide)
  · rw [m.1]; exact fin_fl (u53 g.Lb) k3
  · rw [← l3e]; exact fin_fl (u53 (gen_add go).2.1) (by decide)
end
end
section
theorem clear_EqF : True := by k_with_none; trivial
open PySem PySem.SeqAt PySem.W PyProof.Rows
set_option maxHeartbeats 4000000
section
variable {prog : Program} {w : World} {A : Around} {E : Value → Shared → Prop} {s : Shared}
theorem same_ff {x : UInt64} {u v : Tok} {Q : Bool → Shared → Prop} (hu : @LT.lt Nat _ 0 u) (hv : @LT.lt Nat _ 0 v) (hb : NoneBooked s.heap) (hq : ∀ b, Q b s) : wpAny (model prog w) A (isSame (.float x u) (.float x v)) Q E s := by
  show wpAny _ A (isSame.created (x == x && !Float64.isNaN x) u v) Q E s
  have h0 : (u == 0 || v == 0) = false := by
    have h1 : (u == 0) = false := beq_eq_false_iff_ne.mpr (Nat.ne_of_gt hu)
    have h2 : (v == 0) = false := beq_eq_false_iff_ne.mpr (Nat.ne_of_gt hv)
    rw [h1, h2]; rfl
  unfold isSame.created
  refine wpAny_ite ?_
  split
  · rename_i h; rw [h0] at h; exact absurd h Bool.false_ne_true
  refine wpAny_ite ?_
  split
  · exact wpAny_pure (hq _)
  refine wpAny_ite ?_
  split
  · exact wpAny_pure (hq _)
  refine wpAny_bind (wpAny_sharingNotTold_none hb ?_)
  first | rw [if_neg Bool.false_ne_true] | simp only [Bool.false_eq_true, if_false]
  refine wpAny_bind (wpAny_sharingNotTold_none hb ?_)
  first | rw [if_neg Bool.false_ne_true] | simp only [Bool.false_eq_true, if_false]
  exact wpAny_bind (wpAny_rule (wpAny_bind (wpAny_askSetting (wpAny_pure (hq _)))))
theorem rcat_ff {x : UInt64} {t u : Tok} (h : (Float64.cmp x x == some Ordering.eq) = true) : RcAt A s (.float x t) (.float x u) true := fun prog w E Q hq => by
  refine AutoFloatOps.eq_0 (a := x) (t := t) (b := x) (u := u) ?_
  rw [h]
  exact hq
theorem eqat_ff {x : UInt64} {t u : Tok} (ht : @LT.lt Nat _ 0 t) (hu : @LT.lt Nat _ 0 u) (hb : NoneBooked s.heap) (h : (Float64.cmp x x == some Ordering.eq) = true) : EqAt A s (.float x t) (.float x u) true := fun prog w E Q hq => by
  unfold eqBool
  refine wpAny_holding ?_
  refine wpAny_ite_split (fun _ => ?_) (fun _ => ?_)
  · exact wpAny_bind (wpAny_rule (wpAny_pure hq))
  · refine wpAny_bind (same_ff ht hu hb fun b => ?_)
    cases b with
    | true => exact wpAny_pure hq
    | false => exact wpAny_bind (rcat_ff h prog w E _ (wpAny_truthy_bool hq))
theorem all_true {n : Nat} : ((List.range n).all fun _ => true) = true := by
  rw [List.all_eq_true]; exact fun _ _ => rfl
theorem eqat_tup {a b : Addr} {xs ys : Array Value} (ha : s.heap.IsTuple a xs) (hb : s.heap.IsTuple b ys) (hz : xs.size = ys.size) (hu : A.units < cLine)
    (he : ∀ j (h1 : j < xs.size) (h2 : j < ys.size), EqAt A.in1 s xs[j] ys[j] true) : EqAt A s (.ref a) (.ref b) true := by
  by_cases e : a = b
  · subst e; exact EqAt.same _
  · have q := EqAt.of_refs e (RcAt.tuples (e := fun _ => true) ha hb hu he)
    rw [all_true, hz, beq_self_eq_true] at q
    exact q
theorem ne_lists {l b : Addr} {xs ys : Array Value} {Q : Value → Shared → Prop} (hl : s.heap.IsList l xs) (hb : s.heap.IsList b ys) (hz : xs.size = ys.size) (hu : A.units < cLine)
    (he : ∀ j (h1 : j < xs.size) (h2 : j < ys.size), EqAt A.in1 s xs[j] ys[j] true) (h : Q (.bool false) s) : wpAny (model prog w) A (compareOp .NotEq (.ref l) (.ref b)) Q E s := by
  have q := RcNeAt.lists (e := fun _ => true) hl hb hz hu he
  rw [all_true] at q
  exact q prog w E Q h
end
end
section
theorem clear_EqB : True := by k_with_none; trivial
open PySem PySem.SeqAt PySem.W PyProof.Rows
set_option maxHeartbeats 4000000
section
variable {prog : Program} {w : World} {A : Around} {E : Value → Shared → Prop} {s : Shared}
theorem rcat_fi {t u : Tok} : RcAt A s (.float 0 t) (.int 0 u) true := fun prog w E Q hq => by
  refine eq_fi (a := 0) (t := t) (n := 0) (u := u) ?_
  rw [show (Float64.cmpInt 0 0 == some Ordering.eq) = true by decide +kernel]
  exact hq
theorem eqat_fi {t u : Tok} : EqAt A s (.float 0 t) (.int 0 u) true := fun prog w E Q hq => by
  unfold eqBool
  refine wpAny_holding ?_
  refine wpAny_ite_split (fun hab => absurd (eq_of_beq hab) nofun) (fun _ => ?_)
  exact wpAny_bind (rcat_fi prog w E _ (wpAny_truthy_bool hq))
theorem eqat_hue {x : UInt64} {v : Value} {t : Tok} (h : HueEq x v) (ht : @LT.lt Nat _ 0 t) (hb : NoneBooked s.heap) : EqAt A s (.float x t) v true := by
  rcases h with ⟨rfl, u, rfl⟩ | ⟨u, pu, rfl, hf⟩
  · exact eqat_fi
  · exact eqat_ff ht pu hb hf
theorem tup_at {a : Addr} {xs : Array Value} {h₀ : Heap} {L : Addr} {news : List (Addr × Obj)} (N : News h₀ L s.heap news) (m : (a, ({ cls := .type "tuple", data := .seq xs } : Obj)) ∈ news) : s.heap.IsTuple a xs := ⟨_, (N _ m).1, rfl, _, rfl⟩
theorem eqat2 {a b : Addr} {x y x' y' : Value} (ha : s.heap.IsTuple a #[x, y]) (hb : s.heap.IsTuple b #[x', y']) (hu : A.units < cLine) (h0 : EqAt A.in1 s x x' true) (h1 : EqAt A.in1 s y y' true) : EqAt A s (.ref a) (.ref b) true :=
  eqat_tup ha hb rfl hu fun j k1 k2 => by
    match j, k1 with
    | 0, _ => exact h0
    | 1, _ => exact h1
    | n + 2, k => exact absurd k (by simp)
theorem eqat3 {a b : Addr} {x y z x' y' z' : Value} (ha : s.heap.IsTuple a #[x, y, z]) (hb : s.heap.IsTuple b #[x', y', z']) (hu : A.units < cLine) (h0 : EqAt A.in1 s x x' true) (h1 : EqAt A.in1 s y y' true) (h2 : EqAt A.in1 s z z' true) : EqAt A s (.ref a) (.ref b) true :=
  eqat_tup ha hb rfl hu fun j k1 k2 => by
    match j, k1 with
    | 0, _ => exact h0
    | 1, _ => exact h1
    | 2, _ => exact h2
    | n + 3, k => exact absurd k (by simp)
theorem ne_told {p0 p1 p2 x y z le l1 h1 h2 v2 h3 l3 s1 s2 s3 L1 : UInt64} {bb : Bool} {vt vb : Value} (al : Alike p0 p1 p2 x y z le l1 h1 h2 v2 h3 l3 s1 s2 s3 L1 bb vt vb)
    {h₀ : Heap} {L : Addr} {news : List (Addr × Obj)} {D D2 a0 a1 a2 a3 a4 b0 b1 b2 b3 b4 : Addr} {n n2 : Nat} {tl u1 u2 u3 u4 u5 u6 cu cv cw ta tb tc t1 t2 t3 : Tok} {Q : Value → Shared → Prop}
    (N : News h₀ L s.heap news) (hb : NoneBooked s.heap) (hu : A.units + 1 < cLine)
    (m : (D, listOf #[.ref a0, .float le tl, .ref a1, .ref a2, .ref a3, .ref a4, .bool (Float64.cmp s3 s1 == some Ordering.eq)] n) ∈ news)
    (m4 : (a4, ({ cls := .type "tuple", data := .seq #[.float h3 u5, .float l3 u6] } : Obj)) ∈ news) (m2 : (a2, ({ cls := .type "tuple", data := .seq #[.float h2 u3, .float v2 u4] } : Obj)) ∈ news) (m1 : (a1, ({ cls := .type "tuple", data := .seq #[.float h1 u1, .float l1 u2] } : Obj)) ∈ news)
    (m3 : (a3, ({ cls := .type "tuple", data := .seq #[.bool (Float64.cmpInt s1 0 == some Ordering.eq), .bool (Float64.cmpInt s2 0 == some Ordering.eq)] } : Obj)) ∈ news) (m0 : (a0, ({ cls := .type "tuple", data := .seq #[.float x cu, .float y cv, .float z cw] } : Obj)) ∈ news)
    (k : (D2, listOf #[.ref b0, .float (Float64.div (Float64.add (max3F p0 p1 p2) (min3F p0 p1 p2)) (Float64.ofInt 2)) t1, .ref b1, .ref b2, .ref b3, .ref b4, .bool true] n2) ∈ news)
    (k4 : (b4, tup2 vb (.float (Float64.sub (Float64.ofInt 1) (Float64.div (Float64.add (max3F p0 p1 p2) (min3F p0 p1 p2)) (Float64.ofInt 2))) t2)) ∈ news) (k3 : (b3, tup2 (.bool bb) (.bool bb)) ∈ news) (k2 : (b2, tup2 vt (.float (max3F p0 p1 p2) t3)) ∈ news)
    (k1 : (b1, tup2 vt (.float (Float64.div (Float64.add (max3F p0 p1 p2) (min3F p0 p1 p2)) (Float64.ofInt 2)) t1)) ∈ news) (k0 : (b0, ({ cls := .type "tuple", data := .seq #[.float p0 ta, .float p1 tb, .float p2 tc] } : Obj)) ∈ news)
    (q0 : @LT.lt Nat _ 0 tl) (q1 : @LT.lt Nat _ 0 u1) (q2 : @LT.lt Nat _ 0 u2) (q3 : @LT.lt Nat _ 0 u3) (q4 : @LT.lt Nat _ 0 u4) (q5 : @LT.lt Nat _ 0 u5) (q6 : @LT.lt Nat _ 0 u6) (c1 : @LT.lt Nat _ 0 cu) (c2 : @LT.lt Nat _ 0 cv) (c3 : @LT.lt Nat _ 0 cw)
    (r1 : @LT.lt Nat _ 0 ta) (r2 : @LT.lt Nat _ 0 tb) (r3 : @LT.lt Nat _ 0 tc) (r4 : @LT.lt Nat _ 0 t1) (r5 : @LT.lt Nat _ 0 t2) (r6 : @LT.lt Nat _ 0 t3)
    (h : Q (.bool false) s) : wpAny (model prog w) A (compareOp .NotEq (.ref D) (.ref D2)) Q E s := by
  obtain ⟨ex, ey, ez, ele, el1, eL, eh1, eh2, ev2, eh3, el3, es1, es2, es3, fp0, fp1, fp2, fL, fm, fl⟩ := al
  rw [eL] at k k4 k1
  subst ex ey ez ele el1 ev2 el3
  rw [es3] at m
  rw [es1, es2] at m3
  have hu1 : A.in1.units < cLine := hu
  refine ne_lists (xs := _) (ys := _) ⟨_, (N _ m).1, rfl, n, rfl⟩ ⟨_, (N _ k).1, rfl, n2, rfl⟩ rfl (Nat.lt_of_succ_lt hu) (fun j j1 j2 => ?_) h
  match j, j1 with
  | 0, _ => exact eqat3 (tup_at N m0) (tup_at N k0) hu1 (eqat_ff c1 r1 hb fp0) (eqat_ff c2 r2 hb fp1) (eqat_ff c3 r3 hb fp2)
  | 1, _ => exact eqat_ff q0 r4 hb fL
  | 2, _ => exact eqat2 (tup_at N m1) (tup_at N k1) hu1 (eqat_hue eh1 q1 hb) (eqat_ff q2 r4 hb fL)
  | 3, _ => exact eqat2 (tup_at N m2) (tup_at N k2) hu1 (eqat_hue eh2 q3 hb) (eqat_ff q4 r6 hb fm)
  | 4, _ => exact eqat2 (tup_at N m3) (tup_at N k3) hu1 (EqAt.same _) (EqAt.same _)
  | 5, _ => exact eqat2 (tup_at N m4) (tup_at N k4) hu1 (eqat_hue eh3 q5 hb) (eqat_ff q6 r5 hb fl)
  | 6, _ => exact EqAt.same _
  | n + 7, k => exact absurd k (by simp)
theorem none_booked {h h₀ : Heap} {L : Addr} {m : Str → Option Value} {w : World} (F : Fr h₀ L h m) (X : (hd.heap_1 w.params).In h₀) : NoneBooked h := by
  have g2 : h.get? 2 = some _ := F.keep _ _ (X 2 _ (by rfl))
  exact ⟨fun _ => none, ⟨_, #[], _, g2, rfl, by (intro k; simp), fun _ => rfl⟩, rfl⟩
end
end
section
theorem clear_Cls0 : True := by k_with_none; trivial
open PySem PySem.W PySem.Calls PyProof.Rows
/-- what is known of a heap: all of `hb` but the addresses in `ds`, and `ds` -/
structure S (P : Addr) (hb h : Heap) (ds : List (Addr × Obj)) : Prop where
  hi : ∀ p ∈ ds, p.1 = P ∨ hb.get? p.1 = none
  keep : ∀ b o, hb.get? b = some o → (∀ p ∈ ds, p.1 ≠ b) → h.get? b = some o
  here : ∀ p ∈ ds, h.get? p.1 = some p.2
  nd : (ds.map (·.1)).Pairwise (· ≠ ·)
section
variable {P : Addr} {hb h : Heap} {ds : List (Addr × Obj)}
theorem S.start (h : Heap) : S P h h [] := ⟨(fun _ e => nomatch e), fun _ _ e _ => e, (fun _ e => nomatch e), List.Pairwise.nil⟩
theorem S.start1 {o : Obj} (e : h.get? P = some o) : S P h h [(P, o)] := by
  refine ⟨fun p hp => .inl (by rw [List.mem_singleton.mp hp]), fun _ _ e _ => e, fun p hp => ?_, List.pairwise_singleton ..⟩
  rw [List.mem_singleton.mp hp]; exact e
theorem S.at (D : S P hb h ds) {a : Addr} {o : Obj} (hm : (a, o) ∈ ds) : h.get? a = some o := D.here _ hm
theorem S.old (D : S P hb h ds) {a : Addr} {o : Obj} (e : hb.get? a = some o) (hn : a ≠ P) : h.get? a = some o :=
  D.keep a o e fun p hp hpa => (D.hi p hp).elim (fun q => hn (hpa.symm.trans q)) (fun q => by rw [hpa, e] at q; cases q)
theorem S.push (D : S P hb h ds) (o : Obj) (hf : o.isFreed = false) : S P hb (h.push o) ((h.objs.size, o) :: ds) := by
  have lt : ∀ p ∈ ds, p.1 ≠ h.objs.size := fun p hp => Nat.ne_of_lt (Heap.lt_size (D.here p hp))
  refine ⟨fun p hp => ?_, fun b o' e hn => Heap.get?_push_of_some _ (D.keep b o' e fun p hp => hn p (.tail _ hp)), fun p hp => ?_, ?_⟩
  · cases hp with
    | head =>
      refine .inr ?_
      cases e : hb.get? h.objs.size with
      | none => rfl
      | some o' => exact absurd (Heap.lt_size (D.keep _ _ e lt)) (Nat.lt_irrefl _)
    | tail _ q => exact D.hi p q
  · cases hp with
    | head => exact Heap.get?_push_size _ hf
    | tail _ q => exact Heap.get?_push_of_some _ (D.here p q)
  · refine List.Pairwise.cons (fun b hb => ?_) D.nd
    obtain ⟨p, hp, rfl⟩ := List.mem_map.mp hb
    exact (lt p hp).symm
theorem S.mem {h' : Heap} {news : List (Addr × Obj)} (D : S P hb h ds) (M : X.Mem h h' [] news) : S P hb h' (news ++ ds) := by
  have old : ∀ b o, h.get? b = some o → h'.get? b = some o := fun b o e => M.keep b o e (by simp [X.away])
  have nn : ∀ p ∈ news, ∀ q ∈ ds, p.1 ≠ q.1 := fun p hp q hq e => by
    have := (M.nw p hp).2
    rw [e, D.here q hq] at this
    cases this
  refine ⟨fun p hp => ?_, fun b o e hn => ?_, fun p hp => ?_, ?_⟩
  · rcases List.mem_append.mp hp with hp | hp
    · refine .inr ?_
      cases e : hb.get? p.1 with
      | none => rfl
      | some o =>
        have := D.keep _ _ e fun q hq => (nn p hp q hq).symm
        rw [(M.nw p hp).2] at this
        cases this
    · exact D.hi p hp
  · exact old _ _ (D.keep b o e fun p hp => hn p (List.mem_append_right _ hp))
  · rcases List.mem_append.mp hp with hp | hp
    · exact (M.nw p hp).1
    · exact old _ _ (D.here p hp)
  · rw [List.map_append]
    refine List.pairwise_append.mpr ⟨M.ord.imp fun h => Nat.ne_of_gt h, D.nd, fun a ha b hb => ?_⟩
    obtain ⟨p, hp, rfl⟩ := List.mem_map.mp ha
    obtain ⟨q, hq, rfl⟩ := List.mem_map.mp hb
    exact nn p hp q hq
/-- the first entry of `a` changed -/
noncomputable def putS (a : Addr) (o' : Obj) : List (Addr × Obj) → List (Addr × Obj)
  | [] => []
  | p :: r => if p.1 = a then (a, o') :: r else p :: putS a o' r
theorem putS_fst (a : Addr) (o' : Obj) : ∀ ds : List (Addr × Obj), (putS a o' ds).map (·.1) = ds.map (·.1)
  | [] => rfl
  | p :: r => by
    unfold putS
    by_cases e : p.1 = a
    · rw [if_pos e]; simp [e]
    · rw [if_neg e]; simp [putS_fst a o' r]
theorem putS_mem {a : Addr} {o' : Obj} : ∀ {ds : List (Addr × Obj)}, (ds.map (·.1)).Pairwise (· ≠ ·) → ∀ p ∈ putS a o' ds, p = (a, o') ∨ (p ∈ ds ∧ p.1 ≠ a)
  | [], _, _, hp => nomatch hp
  | q :: r, nd, p, hp => by
    have nd' := List.pairwise_cons.mp nd
    unfold putS at hp
    by_cases e : q.1 = a
    · rw [if_pos e] at hp
      cases hp with
      | head => exact .inl rfl
      | tail _ hp => exact .inr ⟨.tail _ hp, fun e' => nd'.1 p.1 (List.mem_map_of_mem hp) (e.trans e'.symm)⟩
    · rw [if_neg e] at hp
      cases hp with
      | head => exact .inr ⟨.head _, e⟩
      | tail _ hp => exact (putS_mem nd'.2 p hp).imp id fun x => ⟨.tail _ x.1, x.2⟩
theorem putS_set {a : Addr} {o o' : Obj} : ∀ {ds : List (Addr × Obj)} {i : Nat}, (ds.map (·.1)).Pairwise (· ≠ ·) → ds[i]? = some (a, o) → putS a o' ds = ds.set i (a, o')
  | [], _, _, e => by simp at e
  | p :: r, 0, _, e => by
    have : p = (a, o) := by simpa using e
    subst this
    simp [putS]
  | p :: r, i + 1, nd, e => by
    have nd' := List.pairwise_cons.mp nd
    have e' : r[i]? = some (a, o) := by simpa using e
    have hne : p.1 ≠ a := nd'.1 a (List.mem_map_of_mem (f := (·.1)) (List.mem_of_getElem? e'))
    simp [putS, hne, putS_set (o' := o') nd'.2 e']
theorem S.update (D : S P hb h ds) {a : Addr} {o : Obj} {f : Obj → Obj} (hm : (a, o) ∈ ds) (hf : (f o).isFreed = false) : S P hb (h.update a f) (putS a (f o) ds) := by
  have hs : Heap.SameBut a h (h.update a f) := Heap.SameBut.update ..
  have ge : (h.update a f).get? a = some (f o) := Heap.get?_update_self f (D.here _ hm) hf
  refine ⟨fun p hp => ?_, fun b o' e hn => ?_, fun p hp => ?_, by rw [putS_fst]; exact D.nd⟩
  · have : p.1 ∈ (putS a (f o) ds).map (·.1) := List.mem_map_of_mem hp
    rw [putS_fst] at this
    obtain ⟨q, hq, e⟩ := List.mem_map.mp this
    exact e ▸ D.hi q hq
  · have hn' : ∀ p ∈ ds, p.1 ≠ b := fun p hp hpb => by
      have : p.1 ∈ (putS a (f o) ds).map (·.1) := by rw [putS_fst]; exact List.mem_map_of_mem hp
      obtain ⟨q, hq, e⟩ := List.mem_map.mp this
      exact hn q hq (e.trans hpb)
    exact (hs.2 b (fun e' => hn' _ hm e'.symm)).trans (D.keep b o' e hn')
  · rcases putS_mem D.nd p hp with rfl | ⟨hp, hne⟩
    · exact ge
    · exact (hs.2 p.1 hne).trans (D.here p hp)
end
section
variable {α : Type} {prog : Program} {w : World} {A : Around} {E : Value → Shared → Prop} {s : Shared} {Q : α → Shared → Prop} {P : Addr} {hb : Heap} {ds : List (Addr × Obj)}
theorem n_new {a : Addr} {q : Option Value} {k : Obj → Sem α} {o : Obj} (D : S P hb s.heap ds) (ho : (a, o) ∈ ds) (h : wpAny (model prog w) A (k o) Q E s) : wpAny (model prog w) A (.load a q k) Q E s := X.x_load (D.at ho) h
end
end
section
theorem clear_Cls1 : True := by k_with_none; trivial
open PySem PySem.W PySem.W.X PyProof.Rows
set_option maxRecDepth 100000
set_option maxHeartbeats 8000000
theorem lyne_Cls1_1 : True := by
  k_with "x_close!" => (first | exact hret _ _ (by assumption) | (trace_state; exact hret _ _ (by assumption)))
  trivial
theorem prep {prog : Program} {w : World} {A : Around} {h : Heap} {g : Array GenState} {d : Drawn} {t tk : Nat} {os : OsState} {Q : Option Value → Shared → Prop} {E : Value → Shared → Prop}
  (hret : ∀ a h', Mem h h' [] [(a, ({ cls := .type "builtin_function_or_method", data := .fields #[.builtin "type.__prepare__", .type "type"] } : Obj))] → Q (some (.ref a)) ⟨h', g, d, t, os⟩) :
  wpAny (model prog w) A (getAttrBy? (.type "type") (.str "__prepare__" tk)) Q E ⟨h, g, d, t, os⟩ := by
  x_run
end
section
theorem clear_Cls3 : True := by k_with_none; trivial
open PySem PySem.W PySem.W.X PyProof.Rows
set_option maxRecDepth 100000
set_option maxHeartbeats 8000000
section
variable {prog : Program} {w : World} {A : Around} {E : Value → Shared → Prop} {s : Shared} {Q : Value → Shared → Prop} {P L : Addr} {hb : Heap} {ds : List (Addr × Obj)}
noncomputable abbrev bfn (n : String) (self : Value) : Obj := { cls := .type "builtin_function_or_method", data := .fields #[.builtin n, self] }
noncomputable abbrev dict0 : Obj := { cls := .type "dict", data := .dict #[] }
theorem n_alloc' {α : Type} {Q : α → Shared → Prop} {o : Obj} {k : Addr → Sem α} (D : S P hb s.heap ds) (h : ∀ a h', S P hb h' ((a, o) :: ds) → (∀ b, (∃ o, s.heap.get? b = some o) → b < a) → wpAny (model prog w) A (k a) Q E { s with heap := h' }) (hf : o.isFreed = false) :
    wpAny (model prog w) A (.alloc o k) Q E s :=
  wpAny_bind (m := alloc o) (f := k) (wpAny_alloc (h _ _ (D.push o hf) (fun _ hb => Heap.lt_size hb.choose_spec)))
theorem prep_call {pr : Addr} {nv bt : Value} (D : S P hb s.heap ds) (hm : (pr, bfn "type.__prepare__" (.type "type")) ∈ ds)
    (h : ∀ a h', S P hb h' ((a, dict0) :: ds) → (∀ b, (∃ o, s.heap.get? b = some o) → b < a) → Q (.ref a) { s with heap := h' }) :
    wpAny (model prog w) A (call (.ref pr) [nv, bt] []) Q E s := by
  refine wpAny_call ?_
  refine x_code ?_
  refine x_skim 100 ?_
  conv => arg 3; whnf
  with_reducible refine n_new D hm ?_
  refine x_skim 100 ?_
  conv => arg 3; whnf
  with_reducible refine x_pure ?_
  refine ⟨plainId_quiet (by decide +kernel) _, codeAny_builtin (b := Builtin.«type.__prepare__») (entryFor_of_tree (by kernel_rfl)) ?_⟩
  refine x_skim 100 ?_
  conv => arg 3; whnf
  with_reducible refine n_alloc' D ?_ ?f
  case f => rfl
  intro a h' D' l
  refine x_skim 100 ?_
  conv => arg 3; whnf
  with_reducible refine x_pure ?_
  exact h a h' D' l
end
end
section
theorem clear_Cls2B : True := by k_with_none; trivial
open PySem PySem.W PySem.W.X PyProof.Rows
set_option maxRecDepth 100000
set_option maxHeartbeats 8000000
noncomputable def fdAt (K : Frag) (a : Addr) : Option FuncData := match K.lookup a with | some ⟨_, _, .func fd, _⟩ => some fd | _ => none
/-- the function data of object 42, as the head's own table holds it -/
noncomputable def kFd (P : Params) : FuncData := by
  refine (?f : ∀ b : FuncData, fdAt (hd.heap_1 P) 42 = some b → FuncData) _ rfl
  intro b _
  exact b
noncomputable def kSt (P : Params) : Stmt := match (kFd P).body with | .stmts (st :: _) => st | _ => .Pass ⟨0, 0, 0, 0⟩
noncomputable def kBody (P : Params) : List Stmt := match kSt P with | .ClassDef _ _ _ body _ _ _ _ _ _ _ => body | _ => []
noncomputable def kScope (P : Params) : Scope := match kSt P with | .ClassDef _ _ _ _ _ _ sc _ _ _ _ => sc | _ => { kind := .function, names := [], isGenerator := false, isCoroutine := false }
noncomputable abbrev kEnv (P : Params) (L : Addr) : Env := envOfC "cmp_to_key" (kFd P).scope L 42 (.ref 41)
section
variable {prog : Program} {w : World} {A : Around} {E : Value → Shared → Prop} {s : Shared} {Q : Value → Shared → Prop} {L : Addr} {hb : Heap} {ds : List (Addr × Obj)}
set_option pp.deepTerms false
set_option pp.deepTerms.threshold 6
end
end
section
theorem clear_Cls4B : True := by k_with_none; trivial
open PySem PySem.W PySem.W.X PyProof.Rows
set_option maxRecDepth 100000
set_option maxHeartbeats 8000000
section
variable {prog : Program} {w : World} {A : Around} {E : Value → Shared → Prop} {s : Shared} {Q : Value → Shared → Prop} {L : Addr} {hb : Heap} {ds : List (Addr × Obj)}
set_option pp.deepTerms false
set_option pp.deepTerms.threshold 6
theorem S.updateAt {P : Addr} {h : Heap} {a : Addr} {o : Obj} {f : Obj → Obj} {i : Nat} (D : S P hb h ds) (ho : ds[i]? = some (a, o)) (hf : (f o).isFreed = false) : S P hb (h.update a f) (ds.set i (a, f o)) := by
  have D' := D.update (f := f) (List.mem_of_getElem? ho) hf
  rwa [putS_set D.nd ho] at D'
noncomputable abbrev strTup (vs : List Value) : Obj := { cls := .type "tuple", data := .seq vs.toArray }
theorem freeK (P) : (kScope P).freeNames = [("mycmp" : Str)] := by
  have e : (kScope P).names.filter (·.2 == NameKind.free) = [(("mycmp" : Str), NameKind.free)] := by rfl
  unfold Scope.freeNames
  rw [e]
  simp
noncomputable def codeOK (o : Obj) (P : Addr) : Prop := ∃ vs file tf flags tg inF text tt, o.cls = Value.type "code" ∧ o.data = .fields vs ∧ vs[11]? = some (Value.ref P) ∧ vs.getD 11 .none = .ref P ∧ vs.getD 18 .none = .str file tf ∧
    vs.getD 7 .none = .int flags tg ∧ vs.getD 9 .none = .bool inF ∧ vs.getD 10 .none = .int text tt
theorem codeHd_of {h : Heap} {c P : Addr} {o : Obj} (e : h.get? c = some o) (k : codeOK o P) (n : c ≠ P) : CodeHd h c P :=
  k.elim fun vs k => k.elim fun file k => k.elim fun tf k => k.elim fun flags k => k.elim fun tg k => k.elim fun inF k => k.elim fun text k => k.elim fun tt a =>
  ⟨o, vs, file, tf, flags, tg, inF, text, tt, e, a.1, a.2.1, a.2.2.1, a.2.2.2.1, a.2.2.2.2.1, a.2.2.2.2.2.1, a.2.2.2.2.2.2.1, a.2.2.2.2.2.2.2, n⟩
theorem cls_code {fl : Nat} {pos : Pos} {i : Nat} {vs : Array Value} {fT : Tok} {file : Str} {fg tg : Int} {t7 t10 : Tok} (D : S 37 hb s.heap ds) (g20 : hb.get? 41 = some { cls := .type "code", data := .fields vs }) (h16 : ds[i]? = some (37, W.tabObj #[]))
    (v11 : vs.getD 11 .none = .ref 37) (v18 : vs.getD 18 .none = .str file fT) (v7 : vs.getD 7 .none = .int fg t7) (v9 : vs.getD 9 .none = .bool true) (v10 : vs.getD 10 .none = .int tg t10)
    (h : ∀ c' P' T' co h' tk, S 37 hb h' ((c', co) :: (P', W.tabObj #[]) :: (T', strTup [.str "mycmp" (s.toks + 3)]) :: ds.set i (37, W.tabObj #[rawInt pos.line, rawInt pos.col, .ref c'])) → codeOK co P' →
      Q (.ref c') { s with heap := h', toks := tk }) :
    wpAny (model prog w) A (classCode (kEnv w.params L) pos fl "K" "cmp_to_key.<locals>.K" (kScope w.params)) Q E s := by
  unfold classCode codeAt
  rw [if_neg (show ¬ (((kEnv w.params L).code == Value.none) = true) from Bool.false_ne_true)]
  refine wpAny_bind (wpAny_fieldsOf (D.old g20 (by decide)) rfl ?_)
  rw [v11]
  have m16 := List.mem_of_getElem? h16
  refine wpAny_bind (wpAny_fieldsOf (D.at m16) rfl ?_)
  rw [v18, v7, v9, v10]
  rw [show codeAmong pos (#[] : Array Value).toList = none from rfl]
  dsimp only
  rw [freeK]
  unfold newCode
  refine wpAny_bind ?_
  refine wpAny_bind (wpAny_mkText (wpAny_bind (wpAny_mkText (wpAny_bind (wpAny_mkText ?_)))))
  dsimp only
  simp only [List.mapM_cons, List.mapM_nil, bind_assoc, pure_bind]
  refine wpAny_bind (wpAny_mkText ?_)
  refine wpAny_bind (wpAny_newTextTuple ?_)
  dsimp only
  have D1 := D.push (strTup [.str "mycmp" (s.toks + 1 + 1 + 1)]) rfl
  revert D1
  generalize s.heap.push _ = h1
  generalize s.heap.objs.size = T'
  intro D1
  refine wpAny_bind (wpAny_alloc ?_)
  dsimp only
  have D2 := D1.push (W.tabObj #[]) rfl
  revert D2
  generalize h1.push _ = h2
  generalize h1.objs.size = P'
  intro D2
  refine wpAny_bind (wpAny_fresh ?_)
  refine wpAny_bind (wpAny_mkText ?_)
  dsimp only
  unfold newFields
  refine wpAny_newObj_type ?_ (by size_fits)
  dsimp only
  generalize hc : ({ cls := .type "code", dict := none, data := _ } : Obj) = co
  have D3 := D2.push co (by rw [← hc]; rfl)
  revert D3
  generalize h2.push _ = h3
  generalize h2.objs.size = c'
  intro D3
  refine wpAny_bind (wpAny_updateFieldsOfTheText (D3.at (.tail _ (.tail _ (.tail _ m16)))) rfl ?_)
  have D4 := D3.updateAt (i := i + 3) (f := Obj.mapFields fun vs => if (codeAmong pos vs.toList).isSome = true then vs else vs ++ #[rawInt pos.line, rawInt pos.col, Value.ref c']) h16 rfl
  have e : Obj.mapFields (fun vs => if (codeAmong pos vs.toList).isSome = true then vs else vs ++ #[rawInt pos.line, rawInt pos.col, Value.ref c']) (W.tabObj #[]) = W.tabObj #[rawInt pos.line, rawInt pos.col, .ref c'] := rfl
  rw [e] at D4
  have m4 : (37, W.tabObj #[rawInt pos.line, rawInt pos.col, .ref c']) ∈ ((c', co) :: (P', W.tabObj #[]) :: (T', strTup [.str "mycmp" (s.toks + 1 + 1 + 1)]) :: ds).set (i + 3) (37, W.tabObj #[rawInt pos.line, rawInt pos.col, .ref c']) :=
    List.mem_of_getElem? (i := i + 3) (by simp [(List.getElem?_eq_some_iff.mp h16).1])
  refine wpAny_bind (wpAny_fieldsOf (D4.at m4) rfl ?_)
  have ea : codeAmong pos (#[rawInt pos.line, rawInt pos.col, Value.ref c'] : Array Value).toList = some (.ref c') := by simp [codeAmong, rawInt]
  rw [ea]
  refine wpAny_pure ?_
  refine h _ _ _ _ _ _ D4 ?_
  rw [← hc]
  exact ⟨_, _, _, _, _, _, _, _, rfl, rfl, rfl, rfl, rfl, rfl, rfl, rfl⟩
end
end
section
theorem clear_Cls5B : True := by k_with_none; trivial
open PySem PySem.W PySem.W.X PyProof.Rows
set_option maxRecDepth 100000
set_option maxHeartbeats 8000000
section
variable {hb h h' : Heap} {ds : List (Addr × Obj)} {P a : Addr} {o o' : Obj}
theorem S.ext {i : Nat} (D : S P hb h ds) (hx : Heap.ExtBut a h h') (hi : ds[i]? = some (a, o)) (ho : h'.get? a = some o') : S P hb h' (ds.set i (a, o')) := by
  have fst : (ds.set i (a, o')).map (·.1) = ds.map (·.1) := by rw [← putS_set D.nd hi, putS_fst]
  refine ⟨fun p hp => ?_, fun b ob e hn => ?_, fun p hp => ?_, by rw [fst]; exact D.nd⟩
  · have : p.1 ∈ (ds.set i (a, o')).map (·.1) := List.mem_map_of_mem hp
    rw [fst] at this
    obtain ⟨q, hq, e⟩ := List.mem_map.mp this
    exact e ▸ D.hi q hq
  · have hn' : ∀ p ∈ ds, p.1 ≠ b := fun p hp hpb => by
      have : p.1 ∈ (ds.set i (a, o')).map (·.1) := by rw [fst]; exact List.mem_map_of_mem hp
      obtain ⟨q, hq, e⟩ := List.mem_map.mp this
      exact hn q hq (e.trans hpb)
    exact hx b ob (fun e' => hn' _ (List.mem_of_getElem? hi) e'.symm) (D.keep b ob e hn')
  · rw [← putS_set D.nd hi] at hp
    rcases putS_mem D.nd p hp with rfl | ⟨hp, hne⟩
    · exact ho
    · exact hx p.1 p.2 hne (D.here p hp)
theorem S.fresh (D : S P hb h ds) {b : Addr} (hl : h.objs.size ≤ b) : hb.get? b = none ∧ ∀ p ∈ ds, p.1 ≠ b := by
  have n : ∀ p ∈ ds, p.1 ≠ b := fun p hp e => absurd (Heap.lt_size (D.here p hp)) (by rw [e]; exact Nat.not_lt.mpr hl)
  refine ⟨?_, n⟩
  cases e : hb.get? b with
  | none => rfl
  | some ob => exact absurd (Heap.lt_size (D.keep _ _ e n)) (Nat.not_lt.mpr hl)
theorem S.add (D : S P hb h ds) {b : Addr} {ob : Obj} (e : h.get? b = some ob) (h0 : hb.get? b = none) (hn : ∀ p ∈ ds, p.1 ≠ b) : S P hb h ((b, ob) :: ds) := by
  refine ⟨fun p hp => ?_, fun b' ob' e' hn' => D.keep b' ob' e' fun p hp => hn' p (.tail _ hp), fun p hp => ?_, List.Pairwise.cons (fun x hx => ?_) D.nd⟩
  · cases hp with
    | head => exact .inr h0
    | tail _ q => exact D.hi p q
  · cases hp with
    | head => exact e
    | tail _ q => exact D.here p q
  · obtain ⟨p, hp, rfl⟩ := List.mem_map.mp hx
    exact (hn p hp).symm
theorem set_fst {i : Nat} (hi : ds[i]? = some (a, o)) : ∀ p ∈ ds.set i (a, o'), p.1 ∈ ds.map (·.1) := fun p hp => by
  rcases List.mem_or_eq_of_mem_set hp with q | q
  · exact List.mem_map_of_mem q
  · rw [q]; exact List.mem_map_of_mem (f := (·.1)) (List.mem_of_getElem? hi)
end
section
variable {M : Model} {A : Around} {E : Value → Shared → Prop} {s : Shared} {name qual : Str} {params : Arguments} {body : List Stmt} {scope : Scope} {env : Env} {c P P₀ : Addr} {ps : Array Value} {pos : Pos} {firstLine : Nat} {mg : Str → Option Value}
  {clos : List (Str × Addr)} {Q : Value → Shared → Prop} {hb : Heap} {ds : List (Addr × Obj)}
end
end
section
theorem clear_Cls6B : True := by k_with_none; trivial
open PySem PySem.W PySem.W.X PyProof.Rows
set_option maxRecDepth 100000
set_option maxHeartbeats 8000000
section
variable {M : Model} {A : Around} {E : Value → Shared → Prop} {s : Shared} {P a : Addr} {hb : Heap} {ds : List (Addr × Obj)} {Q : Unit → Shared → Prop} {es : List DictEntry} {n i : Nat} {name : Str} {v : Value}
noncomputable abbrev strKs (es : List DictEntry) : Prop := ∀ e ∈ es, ∃ n t, e.key = Value.str n t
theorem strKs_put {hsh : Int} {t : Tok} : ∀ {es : List DictEntry}, strKs es → strKs (putL name hsh (.str name t) v es)
  | [], _ => fun e he => by rw [putL, List.mem_singleton] at he; rw [he]; exact ⟨_, _, rfl⟩
  | e :: r, hk => fun e' he => by
    unfold putL at he
    split at he
    · cases he with
      | head => exact hk e (.head _)
      | tail _ q => exact hk e' (.tail _ q)
    · cases he with
      | head => exact hk e (.head _)
      | tail _ q => exact strKs_put (fun x hx => hk x (.tail _ hx)) e' q
theorem set_ns (D : S P hb s.heap ds) (hi : ds[i]? = some (a, dictOf es n)) (hk : strKs es)
    (h : ∀ hsh h', S P hb h' (ds.set i (a, dictOf (putL name hsh (.str name s.toks) v es) (putN name es n))) → Q () { s with heap := h', toks := s.toks + 1 }) : wpAny M A (nsSet a name v) Q E s := by
  intro Γ p _
  have ho := D.at (List.mem_of_getElem? hi)
  simp only [nsSet, strHash, Sem.wp_bind', Sem.wp_cmd_ask, Sem.wp_pure', Sem.wp_cmd_mkText]
  rw [Sem.wp_loadPart_of M Γ _ p { s with toks := s.toks + 1 } (o := dictOf es n) _ ho]
  have hany : es.toArray.any (·.refKey) = false := by
    rw [Array.any_eq_false']; intro e he; obtain ⟨n, t, h⟩ := hk e (by simpa using he); simp [DictEntry.refKey, h]
  simp only [aRefKeyMayBeTheName_at, hany, Bool.and_false, Bool.false_eq_true, if_false, Sem.wp_cmd_updatePart]
  refine ⟨by rw [ho]; rfl, ?_⟩
  have D' := D.updateAt (f := Obj.putName name (if name.cps.isEmpty = true then 0 else reduceHash (M.w.params.strHash name.cps)) (.str name s.toks) v) hi (by rw [putName_dict]; rfl)
  rw [putName_dict] at D'
  exact h _ _ D'
end
end
section
theorem clear_Cls7B : True := by k_with_none; trivial
open PySem PySem.W PySem.W.X PyProof.Rows
set_option maxRecDepth 100000
set_option maxHeartbeats 8000000
section
variable {M : Model} {A : Around} {E : Value → Shared → Prop} {s : Shared} {P a : Addr} {hb : Heap} {ds : List (Addr × Obj)} {Q : Unit → Shared → Prop} {es : List DictEntry} {n i : Nat} {name : Str} {v : Value} {env : Env}
theorem S.ns {h : Heap} {m : Str → Option Value} (D : S P hb h ds) (hn : hb.Ns a m) (ha : a ≠ P) : h.Ns a m :=
  let ⟨o, es, ep, e, r⟩ := hn; ⟨o, es, ep, D.old e ha, r⟩
theorem ns_of {h : Heap} (e : h.get? a = some (dictOf es n)) (hk : strKs es) : h.Ns a (nsFind es.toArray) := ⟨_, _, _, e, rfl, fun e he => hk e (by simpa using he), fun _ => rfl⟩
theorem store_cls (he : storeName env name v = localSet env name v) (D : S P hb s.heap ds) (hi : ds[i]? = some (env.locals, dictOf es n)) (hk : strKs es)
    (h : ∀ hsh h', S P hb h' (ds.set i (env.locals, dictOf (putL name hsh (.str name s.toks) v es) (putN name es n))) → Q () { s with heap := h', toks := s.toks + 1 }) : wpAny M A (storeName env name v) Q E s := by
  rw [he]
  unfold localSet
  refine wpAny_bind (wpAny_load (D.at (List.mem_of_getElem? hi)) ?_)
  rw [if_pos (show ((dictOf es n).cls == Value.type "dict") = true from rfl)]
  exact set_ns D hi hk h
end
noncomputable abbrev cEnv (P : Params) (nsA c fr L : Addr) : Env :=
  { scope := kScope P, locals := nsA, globals := 3, cells := [(("mycmp" : Str), L + 1)], qual := ("cmp_to_key.<locals>.K" : Str) ++ (".": Str), code := .ref c, frame := some fr, builtins := 0 }
theorem clos_eq (P : Params) (L : Addr) : closureFor (kScope P) (kEnv P L) = pure [(("mycmp" : Str), L + 1)] := by rfl
theorem st_eq {P : Params} {nsA c fr L : Addr} {v : Value} : storeName (cEnv P nsA c fr L) "__module__" v = localSet (cEnv P nsA c fr L) "__module__" v := by rfl
theorem st_eq2 {P : Params} {nsA c fr L : Addr} {v : Value} : storeName (cEnv P nsA c fr L) "__qualname__" v = localSet (cEnv P nsA c fr L) "__qualname__" v := by rfl
theorem st_eq3 {P : Params} {nsA c fr L : Addr} {v : Value} : storeName (cEnv P nsA c fr L) "__firstlineno__" v = localSet (cEnv P nsA c fr L) "__firstlineno__" v := by rfl
theorem st_eq4 {P : Params} {nsA c fr L : Addr} {v : Value} : storeName (cEnv P nsA c fr L) "__static_attributes__" v = localSet (cEnv P nsA c fr L) "__static_attributes__" v := by rfl
theorem st_eq5 {P : Params} {nsA c fr L : Addr} {v : Value} : storeName (cEnv P nsA c fr L) "__slots__" v = localSet (cEnv P nsA c fr L) "__slots__" v := by rfl
theorem kd_nm {P : Params} {nsA c fr L : Addr} : (cEnv P nsA c fr L).kindOf "__name__" = none := by rfl
theorem bk_cls {P : Params} {nsA c fr L : Addr} : (cEnv P nsA c fr L).blockKind = .class := by rfl
theorem an_cls {P : Params} : (kScope P).kind.isAnnotationScope = false := by rfl
section
variable {prog : Program} {w : World} {A : Around} {E : Value → Shared → Prop} {s : Shared} {P : Addr} {hb : Heap} {ds : List (Addr × Obj)} {i n : Nat} {es : List DictEntry} {mg : Str → Option Value} {nm : Value} {Pm : Params} {nsA c fr L : Addr}
theorem load_nm {Q : Value → Shared → Prop} (D : S P hb s.heap ds) (hi : ds[i]? = some (nsA, dictOf es n)) (hk : strKs es) (hf : nsFind es.toArray "__name__" = none) (hg : hb.Ns mainGlobals mg) (hP : mainGlobals ≠ P) (hm : mg "__name__" = some nm) (h : Q nm s) :
    wpAny (model prog w) A (loadName (cEnv Pm nsA c fr L) "__name__") Q E s := by
  have g := D.at (List.mem_of_getElem? hi)
  simp only [loadName, kd_nm, bk_cls, an_cls, Bool.false_and, Bool.false_eq_true, if_false, show (!compilersOwnNames.contains ("__name__" : Str)) = false from rfl, pure_bind]
  refine wpAny_bind ?_
  unfold localGet
  refine wpAny_bind (wpAny_load g ?_)
  rw [if_pos (show ((dictOf es n).cls == Value.type "dict") = true from rfl)]
  refine wpAny_nsGet (ns_of g hk) ?_
  rw [hf]
  dsimp only
  unfold loadGlobal
  refine wpAny_bind (wpAny_nsGet (D.ns hg hP) ?_)
  rw [hm]
  exact wpAny_pure h
end
end
section
theorem clear_Cls9B : True := by k_with_none; trivial
open PySem PySem.W PySem.W.X PyProof.Rows
set_option maxRecDepth 100000
set_option maxHeartbeats 8000000
theorem getP (h : Heap) : h.get? h.objs.size = none := by
  cases e : h.get? h.objs.size with
  | none => rfl
  | some o => exact absurd (Heap.lt_size e) (Nat.lt_irrefl _)
theorem S.oldP {P : Addr} {hb h : Heap} {ds : List (Addr × Obj)} {a : Addr} {o : Obj} (D : S P hb h ds) (hP : hb.get? P = none) (e : hb.get? a = some o) : h.get? a = some o :=
  D.old e (fun z => by rw [z, hP] at e; cases e)
noncomputable abbrev nsK (T : Nat → Tok) (k : Nat → Int) (md : Str) (sl fI fL fG fE fl fg sa : Addr) : List DictEntry :=
  [⟨k 1, .str "__module__" (T 1), .str md (T 2)⟩, ⟨k 2, .str "__qualname__" (T 3), .str "cmp_to_key.<locals>.K" (T 4)⟩, ⟨k 3, .str "__firstlineno__" (T 5), .int 68 (T 6)⟩,
     ⟨k 4, .str "__slots__" (T 7), .ref sl⟩, ⟨k 5, .str "__init__" (T 8), .ref fI⟩, ⟨k 6, .str "__lt__" (T 9), .ref fL⟩, ⟨k 7, .str "__gt__" (T 10), .ref fG⟩, ⟨k 8, .str "__eq__" (T 11), .ref fE⟩, ⟨k 9, .str "__le__" (T 12), .ref fl⟩, ⟨k 10, .str "__ge__" (T 13), .ref fg⟩,
     ⟨k 11, .str "__hash__" (T 14), .none⟩, ⟨k 12, .str "__static_attributes__" (T 15), .ref sa⟩]
noncomputable abbrev nsK2 (T : Nat → Tok) (k : Nat → Int) (md : Str) (sl fI fL fG fE fl fg sa : Addr) : List DictEntry :=
  [⟨k 1, .str "__module__" (T 1), .str md (T 2)⟩, ⟨k 3, .str "__firstlineno__" (T 5), .int 68 (T 6)⟩,
     ⟨k 4, .str "__slots__" (T 7), .ref sl⟩, ⟨k 5, .str "__init__" (T 8), .ref fI⟩, ⟨k 6, .str "__lt__" (T 9), .ref fL⟩, ⟨k 7, .str "__gt__" (T 10), .ref fG⟩, ⟨k 8, .str "__eq__" (T 11), .ref fE⟩, ⟨k 9, .str "__le__" (T 12), .ref fl⟩, ⟨k 10, .str "__ge__" (T 13), .ref fg⟩,
     ⟨k 11, .str "__hash__" (T 14), .none⟩, ⟨k 12, .str "__static_attributes__" (T 15), .ref sa⟩]
theorem nsK_str {T k md sl fI fL fG fE fl fg sa} : strKs (nsK T k md sl fI fL fG fE fl fg sa) := by
  unfold strKs
  repeat (refine List.forall_mem_cons.mpr ⟨⟨_, _, rfl⟩, ?_⟩)
  exact fun _ h => nomatch h
theorem nsK2_str {T k md sl fI fL fG fE fl fg sa} : strKs (nsK2 T k md sl fI fL fG fE fl fg sa) := by
  intro e he
  refine nsK_str (T := T) (k := k) (md := md) (sl := sl) (fI := fI) (fL := fL) (fG := fG) (fE := fE) (fl := fl) (fg := fg) (sa := sa) e ?_
  cases he with
  | head => exact .head _
  | tail _ he => exact .tail _ (.tail _ he)
theorem S.keepAll {P : Addr} {hb h h' : Heap} {ds : List (Addr × Obj)} (D : S P hb h ds) (k : ∀ b o, h.get? b = some o → h'.get? b = some o) : S P hb h' ds :=
  ⟨D.hi, fun b o e hn => k b o (D.keep b o e hn), fun p hp => k _ _ (D.here p hp), D.nd⟩
section
variable {M : Model} {A : Around} {E : Value → Shared → Prop} {h : Heap} {g : Array GenState} {d : Drawn} {t : Nat} {os : OsState} {P a : Addr} {hb : Heap} {ds : List (Addr × Obj)} {o : Obj}
theorem l_old {Q : Obj → Shared → Prop} (D : S P hb h ds) (hP : hb.get? P = none) (ho : hb.get? a = some o) (hq : Q o ⟨h, g, d, t, os⟩) : wpAny M A (load a) Q E ⟨h, g, d, t, os⟩ := wpAny_load (D.oldP hP ho) hq
theorem l_new {Q : Obj → Shared → Prop} (D : S P hb h ds) (ho : (a, o) ∈ ds) (hq : Q o ⟨h, g, d, t, os⟩) : wpAny M A (load a) Q E ⟨h, g, d, t, os⟩ := wpAny_load (D.at ho) hq
theorem lp_old {q : Option Value} {Q : Obj → Shared → Prop} (D : S P hb h ds) (hP : hb.get? P = none) (ho : hb.get? a = some o) (hq : Q o ⟨h, g, d, t, os⟩) : wpAny M A (loadPart a q) Q E ⟨h, g, d, t, os⟩ := wpAny_loadPart (D.oldP hP ho) hq
theorem lp_new {q : Option Value} {Q : Obj → Shared → Prop} (D : S P hb h ds) (ho : (a, o) ∈ ds) (hq : Q o ⟨h, g, d, t, os⟩) : wpAny M A (loadPart a q) Q E ⟨h, g, d, t, os⟩ := wpAny_loadPart (D.at ho) hq
theorem u_new {f : Obj → Obj} {Q : Unit → Shared → Prop} (D : S P hb h ds) (i : Nat) (ho : ds[i]? = some (a, o)) (hq : ∀ h', S P hb h' (ds.set i (a, f o)) → Q () ⟨h', g, d, t, os⟩) (hf : (f o).isFreed = false) : wpAny M A (update a f) Q E ⟨h, g, d, t, os⟩ :=
  wpAny_update (D.at (List.mem_of_getElem? ho)) (hq _ (D.updateAt ho hf))
theorem up_new {q : Option Value} {f : Obj → Obj} {Q : Unit → Shared → Prop} (D : S P hb h ds) (i : Nat) (ho : ds[i]? = some (a, o)) (hq : ∀ h', S P hb h' (ds.set i (a, f o)) → Q () ⟨h', g, d, t, os⟩) (hf : (f o).isFreed = false) : wpAny M A (updatePart a q f) Q E ⟨h, g, d, t, os⟩ :=
  wpAny_updatePart (D.at (List.mem_of_getElem? ho)) (hq _ (D.updateAt ho hf))
theorem al_new {Q : Addr → Shared → Prop} (D : S P hb h ds) (hq : ∀ a h', S P hb h' ((a, o) :: ds) → (∀ b, (∃ o, h.get? b = some o) → b < a) → Q a ⟨h', g, d, t, os⟩) (hf : o.isFreed = false) : wpAny M A (alloc o) Q E ⟨h, g, d, t, os⟩ :=
  wpAny_alloc (hq _ _ (D.push o hf) fun _ hb => Heap.lt_size hb.choose_spec)
theorem ns_new {name : Str} {es : List DictEntry} {n : Nat} {r : Option Value} {Q : Option Value → Shared → Prop} (D : S P hb h ds) (ho : (a, dictOf es n) ∈ ds) (hk : strKs es) (hf : nsFind es.toArray name = r) (hq : Q r ⟨h, g, d, t, os⟩) : wpAny M A (nsGet a name) Q E ⟨h, g, d, t, os⟩ :=
  wpAny_nsGet (ns_of (D.at ho) hk) (by rw [hf]; exact hq)
theorem ni_old {T : String} {b : Bool} {U : String} {Q : Bool → Shared → Prop} (D : S P hb h ds) (hP : hb.get? P = none) (ho : hb.get? a = some o) (hT : o.cls = .type T) (hs : isSubtype (.type T) (.type U) = pure b) (hq : Q b ⟨h, g, d, t, os⟩) : wpAny M A (isInstance (.ref a) (.type U)) Q E ⟨h, g, d, t, os⟩ :=
  wpAny_isInstance (s := ⟨h, g, d, t, os⟩) ⟨_, D.oldP hP ho, hT⟩ hs hq
theorem lb_new {part : Option Value} {Q : Unit → Shared → Prop} (D : S P hb h ds) (hm : (a, o) ∈ ds) (hp : o.data.pastItsLine = none) (hq : Q () ⟨h, g, d, t, os⟩) : wpAny M A (lookBehind a part) Q E ⟨h, g, d, t, os⟩ := wpAny_lookBehind (D.at hm) hp hq
theorem so_old {T : String} {name : Str} {r : Option Value} {Q : Option Value → Shared → Prop} (D : S P hb h ds) (hP : hb.get? P = none) (ho : hb.get? a = some o) (hT : o.cls = .type T) (hl : typeLookup (.type T) name = pure r) (hq : Q r ⟨h, g, d, t, os⟩) : wpAny M A (specialOf (.ref a) name) Q E ⟨h, g, d, t, os⟩ :=
  wpAny_specialOf (s := ⟨h, g, d, t, os⟩) ⟨_, D.oldP hP ho, hT⟩ hl hq
theorem up0 {q : Option Value} {f : Obj → Obj} {Q : Unit → Shared → Prop} (D : S P hb h ((a, o) :: ds)) (hf : (f o).isFreed = false) (hq : ∀ h', S P hb h' ((a, f o) :: ds) → Q () ⟨h', g, d, t, os⟩) : wpAny M A (updatePart a q f) Q E ⟨h, g, d, t, os⟩ := up_new D 0 rfl (fun h' D' => hq h' D') hf
theorem uw0 {f : Obj → Obj} {Q : Unit → Shared → Prop} (D : S P hb h ((a, o) :: ds)) (hf : (f o).isFreed = false) (hq : ∀ h', S P hb h' ((a, f o) :: ds) → Q () ⟨h', g, d, t, os⟩) : wpAny M A (update a f) Q E ⟨h, g, d, t, os⟩ := u_new D 0 rfl (fun h' D' => hq h' D') hf
theorem up1 {p0 : Addr × Obj} {q : Option Value} {f : Obj → Obj} {Q : Unit → Shared → Prop} (D : S P hb h (p0 :: (a, o) :: ds)) (hf : (f o).isFreed = false) (hq : ∀ h', S P hb h' (p0 :: (a, f o) :: ds) → Q () ⟨h', g, d, t, os⟩) : wpAny M A (updatePart a q f) Q E ⟨h, g, d, t, os⟩ := up_new D 1 rfl (fun h' D' => hq h' D') hf
theorem uw1 {p0 : Addr × Obj} {f : Obj → Obj} {Q : Unit → Shared → Prop} (D : S P hb h (p0 :: (a, o) :: ds)) (hf : (f o).isFreed = false) (hq : ∀ h', S P hb h' (p0 :: (a, f o) :: ds) → Q () ⟨h', g, d, t, os⟩) : wpAny M A (update a f) Q E ⟨h, g, d, t, os⟩ := u_new D 1 rfl (fun h' D' => hq h' D') hf
theorem ns2 {p0 p1 : Addr × Obj} {name : Str} {v : Value} {es : List DictEntry} {n : Nat} {Q : Unit → Shared → Prop} (D : S P hb h (p0 :: p1 :: (a, dictOf es n) :: ds)) (hk : strKs es) (hq : ∀ hsh h', S P hb h' (p0 :: p1 :: (a, dictOf (putL name hsh (.str name t) v es) (putN name es n)) :: ds) → Q () ⟨h', g, d, t + 1, os⟩) : wpAny M A (nsSet a name v) Q E ⟨h, g, d, t, os⟩ := set_ns (s := ⟨h, g, d, t, os⟩) (i := 2) D rfl hk (fun hsh h' D' => hq hsh h' D')
end
section
variable {prog : Program} {w : World} {A : Around} {E : Value → Shared → Prop} {h : Heap} {g : Array GenState} {d : Drawn} {t : Nat} {os : OsState} {P a : Addr} {hb : Heap} {ds : List (Addr × Obj)}
theorem col_old {v : Value} {it : Addr} {items : List Value} {n : Nat} {Q : List Value → Shared → Prop} (D : S P hb h ds) (hP : hb.get? P = none) (ho : hb.get? it = some { cls := .type "list", data := .seq items.toArray n })
    (hq : ∀ h', S P hb h' ds → Q items ⟨h', g, d, t, os⟩) (hsz : items.toArray.size ≤ sizeLine) (hv : v = .ref it) : wpAny (model prog w) A (collect v) Q E ⟨h, g, d, t, os⟩ := by
  rw [hv]; exact wpAny_collect_seq (s := ⟨h, g, d, t, os⟩) it (.inl rfl) (D.oldP hP ho) rfl rfl (fun h' k => hq h' (D.keepAll k)) hsz
end
end
section
theorem clear_ClsAB : True := by k_with_none; trivial
open PySem PySem.W PySem.W.X PyProof.Rows
set_option maxRecDepth 100000
set_option maxHeartbeats 8000000
set_option profiler true
set_option profiler.threshold 500
set_option pp.deepTerms false
set_option pp.deepTerms.threshold 6
section
variable {prog : Program} {w : World} {A : Around} {E : Value → Shared → Prop} {ds : List (Addr × Obj)} {hb h : Heap} {g : Array GenState} {d : Drawn} {t : Nat} {os : OsState}
theorem lyne_ClsAB_1 : True := by
  k_with "x_close!" => (first
  | (with_reducible (first
      | refine wpAny_pure ?_ | refine wpAny_bind ?_ | refine wpAny_holding ?_ | refine wpAny_standAt ?_ | refine wpAny_point ?_ | refine wpAny_rule ?_ | refine wpAny_mkStr' ?_ | refine wpAny_fresh' ?_
      | refine wpAny_of_eq (by assumption) ?_ | refine ni_old (by assumption) (by assumption) (by assumption) rfl (by assumption) ?_
      | refine so_old (by assumption) (by assumption) (by assumption) rfl (by assumption) ?_
      | refine l_old (by assumption) (by assumption) (by assumption) ?_
      | refine lp_old (by assumption) (by assumption) (by assumption) ?_
      | refine l_new (by assumption) (by repeat (first | exact List.Mem.head _ | apply List.Mem.tail)) ?_
      | refine lp_new (by assumption) (by repeat (first | exact List.Mem.head _ | apply List.Mem.tail)) ?_))
  | (with_reducible refine al_new (by assumption) ?_ ?ff; (case ff => kernel_rfl!); intro a h' D' l')
  | (with_reducible refine up0 (by assumption) ?ff ?_; (case ff => kernel_rfl!); intro h' D')
  | (with_reducible refine uw0 (by assumption) ?ff ?_; (case ff => kernel_rfl!); intro h' D')
  | (with_reducible refine up1 (by assumption) ?ff ?_; (case ff => kernel_rfl!); intro h' D')
  | (with_reducible refine uw1 (by assumption) ?ff ?_; (case ff => kernel_rfl!); intro h' D')
  | (with_reducible refine ns2 (by assumption) (by first | exact K1 | exact K2 | exact strKs_put K2 | exact strKs_put (strKs_put K2)) ?_; intro hs h' D')
  | (with_reducible refine wpAny_ite_false ?cc ?_; (case cc => kernel_rfl!))
  | (with_reducible refine wpAny_ite_true ?cc ?_; (case cc => kernel_rfl!))
  | (with_reducible refine col_old (items := [.str "obj" (T 16)]) (by assumption) (by assumption) e3 ?_ ?cc ?cv; (case cc => size_fits); (case cv => kernel_rfl!); intro h' D')
  | (with_reducible refine ns_new (r := none) (by assumption) (by repeat (first | exact List.Mem.head _ | apply List.Mem.tail)) (by first | exact K1 | exact K2 | exact strKs_put K2 | exact strKs_put (strKs_put K2)) ?cc ?_; (case cc => kernel_rfl!))
  | wp_delta
  | (rw [r1]) | (rw [r2]) | (rw [r3])
  | (with_reducible_and_instances (first
      | refine wpAny_pure ?_
      | refine wpAny_bind ?_)))
  trivial
theorem anyM_of {M : Model} {α : Type} {f : α → Sem Bool} {l l' : List α} {Q : Bool → Shared → Prop} {s : Shared} (e : l = l') (h : wpAny M A (List.anyM f l') Q E s) : wpAny M A (List.anyM f l) Q E s := by rw [e]; exact h
theorem q_eq {α : Type} {Q : α → Shared → Prop} {s : Shared} {x y : α} (h : Q x s) (e : y = x) : Q y s := by rw [e]; exact h
theorem sread {P : Addr} {sl sa fI fL fG fE fl fg : Addr} {k : Nat → Int} {T : Nat → Tok} {n2 : Nat} {md : Str}
  (D : S P hb h ds) (hP : hb.get? P = none)
  (e3 : hb.get? sl = some { cls := .type "list", data := .seq #[.str "obj" (T 16)] n2 })
  {Q : Builtin.Slots.Plan → Shared → Prop}
  (hq : ∀ h', S P hb h' ds → Q { names := ["obj"], dict := false, weak := false, inherited := [] } ⟨h', g, d, t, os⟩) :
  wpAny (model prog w) A (Builtin.Slots.read "K" [.type "object"] (nsK T k md sl fI fL fG fE fl fg sa).toArray) Q E ⟨h, g, d, t, os⟩ := by
  have q3 : Builtin.Slots.bestBase [.type "object"] = pure (.type "object") := by kernel_rfl
  have q8 : Builtin.Slots.givesDict (.type "object") = pure false := by kernel_rfl
  have q9 : Builtin.Slots.givesWeak (.type "object") = pure false := by kernel_rfl
  have q10 : Builtin.Slots.varSize (.type "object") = pure false := by kernel_rfl
  have q11 : Builtin.Slots.slotNamesOf (.type "object") = pure [] := by kernel_rfl
  have r1 : Builtin.Slots.isIdentifier "obj" = some true := by kernel_rfl
  have r2 : (nsK T k md sl fI fL fG fE fl fg sa).toArray.find? (·.key.isStr "__slots__") = some ⟨k 4, .str "__slots__" (T 7), .ref sl⟩ := by kernel_rfl
  have r3 : Builtin.Slots.mangle "K" "obj" = "obj" := by kernel_rfl
  unfold Builtin.Slots.read
  repeat x_close
  exact q_eq (hq _ D') (by kernel_rfl!)
theorem sread' {P : Addr} {sl sa fI fL fG fE fl fg : Addr} {k : Nat → Int} {T : Nat → Tok} {n2 : Nat} {md : Str} {nm : Str} {bs : List Value} {es : Array DictEntry}
  (D : S P hb h ds) (hP : hb.get? P = none)
  (e3 : hb.get? sl = some { cls := .type "list", data := .seq #[.str "obj" (T 16)] n2 })
  {Q : Builtin.Slots.Plan → Shared → Prop}
  (hn : nm = "K") (hbs : bs = [.type "object"]) (hes : es = (nsK T k md sl fI fL fG fE fl fg sa).toArray)
  (hq : ∀ h', S P hb h' ds → Q { names := ["obj"], dict := false, weak := false, inherited := [] } ⟨h', g, d, t, os⟩) :
  wpAny (model prog w) A (Builtin.Slots.read nm bs es) Q E ⟨h, g, d, t, os⟩ := by
  subst hn hbs hes
  exact sread D hP e3 hq
end
end
section
theorem clear_ClsBB : True := by k_with_none; trivial
open PySem PySem.W PySem.W.X PyProof.Rows
set_option maxRecDepth 100000
set_option maxHeartbeats 8000000
noncomputable abbrev kData (a ns : Addr) : ClassData := { name := "K", bases := [.type "object"], mro := [.ref a, .type "object"], ns, qualname := "cmp_to_key.<locals>.K", hasDict := false, slotNames := ["obj"], hasDel := false }
noncomputable abbrev kSlots (bT : Addr) (tk t4 : Tok) : Array (Option Value) := #[some (.ref bT), none, some (.str "K" tk), some (.str "cmp_to_key.<locals>.K" t4), some (.builtin "object.__new__"), some (.bool false)]
noncomputable abbrev kObj (a ns bT : Addr) (tk t4 : Tok) : Obj := { cls := .type "type", data := .cls (kData a ns), slots := kSlots bT tk t4 }
section
theorem lyne_ClsBB_1 : True := by
  k_with "x_close!" => (exact hret _ _ _ (by assumption))
  trivial
theorem sup_call {prog : Program} {w : World} {A : Around} {h : Heap} {g : Array GenState} {d : Drawn} {t tk t4 : Nat} {os : OsState} {Q : Value → Shared → Prop} {E : Value → Shared → Prop} {a ns bT : Addr}
  (e1 : h.get? a = some { cls := .type "type", data := .cls (kData a ns), slots := kSlots bT tk t4 })
  (hret : ∀ b h' t', Mem h h' [] [(b, { cls := .type "super", data := .fields #[.ref a, .ref a, .ref a] })] → Q (.ref b) ⟨h', g, d, t', os⟩) :
  wpAny (model prog w) A (call (.type "super") [.ref a, .ref a] []) Q E ⟨h, g, d, t, os⟩ := by
  x_run
theorem lyne_ClsBB_2 : True := by
  k_with "x_close!" => (first | exact hret _ _ _ (by assumption) | exact hret2 _ _ (by assumption) | exact hret2 _ _ (Mem.start _))
  trivial
theorem get_call {prog : Program} {w : World} {A : Around} {h : Heap} {g : Array GenState} {d : Drawn} {t tk t4 : Nat} {os : OsState} {Q : Value → Shared → Prop} {E : Value → Shared → Prop} {a ns bT : Addr}
  (e1 : h.get? a = some { cls := .type "type", data := .cls (kData a ns), slots := kSlots bT tk t4 })
  (g2 : h.get? (nat_lit 2) = some { cls := .none, data := .dict #[] })
  (hret : ∀ b h' t', Mem h h' [] [(b, { cls := .type "builtin_function_or_method", data := .fields #[.builtin "object.__init_subclass__", .ref a] })] → Q (.ref b) ⟨h', g, d, t', os⟩) :
  wpAny (model prog w) A (call (.builtin "classmethod_descriptor.__get__") [.builtin "object.__init_subclass__", .none, .ref a] []) Q E ⟨h, g, d, t, os⟩ := by
  x_run
theorem init_call {prog : Program} {w : World} {A : Around} {h : Heap} {g : Array GenState} {d : Drawn} {t tk t4 : Nat} {os : OsState} {Q : Value → Shared → Prop} {E : Value → Shared → Prop} {a b ns bT : Addr}
  (e1 : h.get? a = some { cls := .type "type", data := .cls (kData a ns), slots := kSlots bT tk t4 })
  (e2 : h.get? b = some { cls := .type "builtin_function_or_method", data := .fields #[.builtin "object.__init_subclass__", .ref a] })
  (g2 : h.get? (nat_lit 2) = some { cls := .none, data := .dict #[] })
  (hret2 : ∀ h' t', Mem h h' [] [] → Q .none ⟨h', g, d, t', os⟩) :
  wpAny (model prog w) A (call (.ref b) [] []) Q E ⟨h, g, d, t, os⟩ := by
  x_run
end
end
section
theorem clear_ClsCB : True := by k_with_none; trivial
open PySem PySem.W PySem.W.X PyProof.Rows
set_option maxRecDepth 100000
set_option maxHeartbeats 8000000
set_option pp.deepTerms false
set_option pp.deepTerms.threshold 6
section
variable {prog : Program} {w : World} {A : Around} {E : Value → Shared → Prop} {hb h : Heap} {g : Array GenState} {d : Drawn} {t : Nat} {os : OsState} {ds : List (Addr × Obj)} {P : Addr}
theorem nsC {h : Heap} (e : h.get? 2 = some { cls := .none, data := .dict #[] }) : h.Ns 2 (fun _ => none) := ⟨_, _, _, e, rfl, fun e he => absurd he (by simp), fun _ => rfl⟩
theorem ns2_old {name : Str} {Q : Option Value → Shared → Prop} (D : S P hb h ds) (hP : hb.get? P = none) (g2 : hb.get? (nat_lit 2) = some { cls := .none, data := .dict #[] }) (hq : Q none ⟨h, g, d, t, os⟩) : wpAny (model prog w) A (nsGet cStatics name) Q E ⟨h, g, d, t, os⟩ :=
  wpAny_nsGet (nsC (D.oldP hP g2)) hq
theorem forIn_of {M : Model} {α β : Type} {l l' : List α} {i : β} {f : α → β → Sem (ForInStep β)} {Q : β → Shared → Prop} {s : Shared} (e : l = l') (h : wpAny M A (forIn l' i f) Q E s) : wpAny M A (forIn l i f) Q E s := by rw [e]; exact h
theorem drop_K {a : Addr} : List.drop 1 (List.dropWhile (fun x => x != Value.ref a) [Value.ref a, .type "object"]) = [.type "object"] := by simp [List.dropWhile]
theorem tl_get {M : Model} {T : String} {Q : Option Value → Shared → Prop} {s : Shared} (hT : T = "classmethod_descriptor") (hq : Q (some (.builtin "classmethod_descriptor.__get__")) s) : wpAny M A (typeLookup (.type T) "__get__") Q E s := by
  subst hT
  have e : typeLookup (.type "classmethod_descriptor") "__get__" = pure (some (.builtin "classmethod_descriptor.__get__")) := by rw [typeLookup_type, builtinLookup_eq_fast]; kernel_rfl
  exact wpAny_of_eq e hq
theorem call_of {M : Model} {v : Value} {l l' : List Value} {kw : List (Str × Value)} {Q : Value → Shared → Prop} {s : Shared} (e : l = l') (h : wpAny M A (call v l' kw) Q E s) : wpAny M A (call v l kw) Q E s := by rw [e]; exact h
theorem ifK {a : Addr} : [Value.builtin "object.__init_subclass__", if (Value.ref a == Value.ref a) = true then Value.none else Value.ref a, Value.ref a] = [Value.builtin "object.__init_subclass__", .none, .ref a] := by simp
theorem fld_new {a : Addr} {o : Obj} {vs : Array Value} {i : Nat} {x : Value} {Q : Value → Shared → Prop} (D : S P hb h ds) (hm : (a, o) ∈ ds) (hd : o.data = .fields vs) (hx : vs[i]? = some x) (hq : Q x ⟨h, g, d, t, os⟩) : wpAny (model prog w) A (field (.ref a) i) Q E ⟨h, g, d, t, os⟩ :=
  wpAny_field (D.at hm) hd hx hq
theorem lyne_ClsCB_1 : True := by
  k_with "x_close!" => (first
  | (with_reducible (first
      | refine wpAny_pure ?_ | refine wpAny_bind ?_ | refine wpAny_holding ?_ | refine wpAny_standAt ?_ | refine wpAny_point ?_ | refine wpAny_rule ?_ | refine wpAny_mkStr' ?_ | refine wpAny_fresh' ?_
      | refine wpAny_of_eq (by assumption) ?_
      | refine ns2_old (by assumption) (by assumption) g2 ?_
      | refine fld_new (by assumption) (by first | assumption | exact List.mem_cons_self | exact List.mem_cons_of_mem _ (by assumption)) rfl rfl ?_
      | refine l_new (by assumption) (by first | assumption | exact List.mem_cons_self | exact List.mem_cons_of_mem _ (by assumption)) ?_
      | refine lp_new (by assumption) (by first | assumption | exact List.mem_cons_self | exact List.mem_cons_of_mem _ (by assumption)) ?_
      | refine wpAny_attempt ?_))
  | (with_reducible refine wpAny_ite_false ?cc ?_; (case cc => kernel_rfl!))
  | (with_reducible refine wpAny_ite_true ?cc ?_; (case cc => kernel_rfl!))
  | ((with_reducible refine forIn_of (l' := [.type "object"]) ?cc ?_); (case cc => exact drop_K))
  | ((with_reducible refine tl_get ?cc ?_); (case cc => kernel_rfl!))
  | ((with_reducible refine call_of (l' := [Value.builtin "object.__init_subclass__", .none, .ref a]) ?cc ?_); (case cc => exact ifK); refine get_call (D.at hK) (D.oldP hP g2) ?_; intro b h1 t1 M1; have D1 := D.mem M1; clear D)
  | wp_delta
  | (with_reducible_and_instances refine wpAny_pure ?_)
  | (with_reducible_and_instances refine wpAny_bind ?_))
  trivial
theorem sup_get {sp a ns bT : Addr} {tk t4 tn : Tok} {Q : PySem.Fin → Shared → Prop} (D : S P hb h ds) (hP : hb.get? P = none) (g2 : hb.get? (nat_lit 2) = some { cls := .none, data := .dict #[] })
  (hs : (sp, ({ cls := .type "super", data := .fields #[.ref a, .ref a, .ref a] } : Obj)) ∈ ds) (hK : (a, kObj a ns bT tk t4) ∈ ds)
  (hq : ∀ b h' t', S P hb h' ((b, bfn "object.__init_subclass__" (.ref a)) :: ds) → Q (.done (.ret (.ref b))) ⟨h', g, d, t', os⟩) : wpAny (model prog w) A (Builtin.«super.__getattribute__» ⟨[.ref sp, .str "__init_subclass__" tn], []⟩) Q E ⟨h, g, d, t, os⟩ := by
  unfold Builtin.«super.__getattribute__»
  repeat x_close
  exact hq _ _ _ D1
theorem slot_super : Slot "super" "__getattribute__" "super.__getattribute__" :=
  .of (owner := "super") (n := "__getattribute__") (by rw [typeLookup_type, builtinLookup_eq_fast]; kernel_rfl) (by decide +kernel) (by decide +kernel) (by decide +kernel)
    (by first | exact .inl (by decide +kernel) | exact .inr (by decide +kernel)) (by rw [isSubtype_type]; kernel_rfl)
theorem entry_super : entryFor table "super.__getattribute__" = some Builtin.«super.__getattribute__» := entryFor_of_tree (by kernel_rfl)
theorem sup_attr {sp a ns bT : Addr} {tk t4 : Tok} {Q : Value → Shared → Prop} (D : S P hb h ds) (hP : hb.get? P = none) (g2 : hb.get? (nat_lit 2) = some { cls := .none, data := .dict #[] })
  (hs : (sp, ({ cls := .type "super", data := .fields #[.ref a, .ref a, .ref a] } : Obj)) ∈ ds) (hK : (a, kObj a ns bT tk t4) ∈ ds)
  (hq : ∀ b h' t', S P hb h' ((b, bfn "object.__init_subclass__" (.ref a)) :: ds) → Q (.ref b) ⟨h', g, d, t', os⟩) :
  wpAny (model prog w) A (getAttr (.ref sp) "__init_subclass__") Q E ⟨h, g, d, t, os⟩ := by
  have q1 : typeLookup (.type "super") "__getattribute__" = pure (some (.builtin "super.__getattribute__")) := by rw [typeLookup_type, builtinLookup_eq_fast]; kernel_rfl
  have q3 : bindSpecial (.builtin "super.__getattribute__") (.ref sp) = pure (.builtin "super.__getattribute__", [.ref sp]) := slot_super.bind _
  repeat x_close
  refine wpAny_call_entry (rest := [.str "__init_subclass__" t]) slot_super ⟨_, D.at hs, rfl⟩ entry_super ?_ (by kernel_rfl)
  refine sup_get D hP g2 hs hK ?_
  intro b h1 t1 D1
  refine ⟨_, rfl, ?_⟩
  clear D
  repeat x_close
  trace_state
  exact hq _ _ _ D1
end
end
section
theorem clear_ClsFB : True := by k_with_none; trivial
open PySem PySem.W PySem.W.X PyProof.Rows
set_option maxRecDepth 100000
set_option maxHeartbeats 8000000
set_option pp.deepTerms false
set_option pp.deepTerms.threshold 6
section
variable {prog : Program} {w : World} {A : Around} {E : Value → Shared → Prop} {hb h : Heap} {g : Array GenState} {d : Drawn} {t : Nat} {os : OsState} {ds : List (Addr × Obj)} {P : Addr}
theorem lyne_ClsFB_1 : True := by
  k_with "x_close!" => (first
  | (with_reducible (first
      | refine wpAny_pure ?_ | refine wpAny_bind ?_ | refine wpAny_holding ?_ | refine wpAny_standAt ?_ | refine wpAny_point ?_ | refine wpAny_rule ?_ | refine wpAny_mkStr' ?_ | refine wpAny_fresh' ?_
      | refine wpAny_of_eq (by assumption) ?_
      | refine wpAny_attempt ?_))
  | (with_reducible refine wpAny_ite_false ?cc ?_; (case cc => kernel_rfl!))
  | (with_reducible refine wpAny_ite_true ?cc ?_; (case cc => kernel_rfl!))
  | wp_delta
  | (with_reducible_and_instances refine wpAny_pure ?_)
  | (with_reducible_and_instances refine wpAny_bind ?_))
  trivial
theorem slot_init : Slot "type" "__init__" "type.__init__" :=
  .of (owner := "type") (n := "__init__") (by rw [typeLookup_type, builtinLookup_eq_fast]; kernel_rfl) (by decide +kernel) (by decide +kernel) (by decide +kernel)
    (by first | exact .inl (by decide +kernel) | exact .inr (by decide +kernel)) (by rw [isSubtype_type]; kernel_rfl)
theorem tcall {tk : Nat} {nsA bT : Addr} {Q : Value → Shared → Prop}
  (hn : ∀ A' (Q' : PySem.Fin → Shared → Prop), (∀ a h' t', (∃ o, h'.get? a = some o ∧ o.cls = .type "type") → (Q (.ref a) ⟨h', g, d, t', os⟩) → Q' (.done (.ret (.ref a))) ⟨h', g, d, t', os⟩) → wpAny (model prog w) A' (Builtin.«type.__new__» ⟨[.type "type", .str "K" tk, .ref bT, .ref nsA], []⟩) Q' E ⟨h, g, d, t, os⟩) :
  wpAny (model prog w) A (call (.type "type") [.str "K" tk, .ref bT, .ref nsA] []) Q E ⟨h, g, d, t, os⟩ := by
  have q1 : Bind.madeBy (.type "type") = pure (some "type.__new__") := by kernel_rfl
  have q2 : mroOf (.type "type") = pure [.type "type", .type "object"] := by kernel_rfl
  refine wpAny_call ?_
  refine x_code ?_
  refine x_skim 100 ?_
  conv => arg 3; whnf
  refine x_pure ?_
  refine ⟨by kernel_rfl, codeAny_builtin (b := Builtin.«type.__call__») (entryFor_of_tree (by kernel_rfl)) ?_⟩
  unfold Builtin.«type.__call__»
  repeat x_close
  have ck : checkBuiltinCall "type.__new__" ⟨[.type "type", .str "K" tk, .ref bT, .ref nsA], []⟩ = pure () := by kernel_rfl
  refine wpAny_call (codeAny_call_builtin (b := Builtin.«type.__new__») (by decide +kernel) (entryFor_of_tree (by kernel_rfl)) ?_)
  refine wpAny_of_eq ck ?_
  refine hn _ _ fun a h' t' ho hQ => ?_
  refine wpAny_bind (wpAny_isInstance (s := ⟨h', g, d, t', os⟩) (b := true) ho (by rw [isSubtype_type]; kernel_rfl) ?_)
  refine wpAny_ite_false rfl ?_
  refine wpAny_bind (wpAny_holding ?_)
  refine wpAny_callSpecial?_slot (s := ⟨h', g, d, t', os⟩) ho slot_init ?_
  refine wpAny_call_entry (rest := [.str "K" tk, .ref bT, .ref nsA]) slot_init ho (entryFor_of_tree (b := Builtin.«type.__init__») (by kernel_rfl)) ?_ (by kernel_rfl)
  unfold Builtin.«type.__init__»
  repeat x_close
  refine ⟨_, rfl, ?_⟩
  repeat x_close
  exact hQ
end
end
section
theorem clear_ClsGB : True := by k_with_none; trivial
open PySem PySem.W PySem.W.X PyProof.Rows
set_option maxRecDepth 100000
set_option maxHeartbeats 8000000
noncomputable def kDef (P : Params) (i : Nat) : Stmt := (kBody P).getD i (.Pass ⟨0, 0, 0, 0⟩)
noncomputable def dPar : Stmt → Arguments | .FunctionDef _ a _ _ _ _ _ _ _ _ => a | _ => ⟨[], [], none, [], [], none, []⟩
noncomputable def dBody : Stmt → List Stmt | .FunctionDef _ _ b _ _ _ _ _ _ _ => b | _ => []
noncomputable def dScope : Stmt → Scope | .FunctionDef _ _ _ _ _ _ s _ _ _ => s | _ => { kind := .function, names := [], isGenerator := false, isCoroutine := false }
noncomputable abbrev kFn (P : Params) (i : Nat) (name qual : Str) (clos : List (Str × Addr)) (doc nm : Value) (c : Addr) (ctv : Value) : Obj := fnMade name qual (dPar (kDef P i)) (dBody (kDef P i)) (dScope (kDef P i)) clos doc nm c ctv
noncomputable abbrev nsF (T : Nat → Tok) (k : Nat → Int) (md : Str) (sl fI fL fG fE fl fg sa mdA : Addr) (ha hd : Int) (ta td : Tok) : List DictEntry :=
  nsK2 T k md sl fI fL fG fE fl fg sa ++ [⟨ha, .str "obj" ta, .ref mdA⟩, ⟨hd, .str "__doc__" td, .none⟩]
noncomputable abbrev mdObj (a : Addr) (t : Tok) : Obj := { cls := .type "member_descriptor", data := .fields #[.str "obj" t, .ref a, .builtin "proto.slot", .builtin "proto.slot#set", .int 0 0] }
end
section
theorem clear_ClsNB : True := by k_with_none; trivial
open PySem PySem.W PySem.W.X PyProof.Rows
set_option maxRecDepth 100000
set_option maxHeartbeats 8000000
set_option pp.deepTerms false
set_option pp.deepTerms.threshold 6
section
variable {prog : Program} {w : World} {A : Around} {E : Value → Shared → Prop} {Q : PySem.Fin → Shared → Prop} {hb h : Heap} {g : Array GenState} {d : Drawn} {t : Nat} {os : OsState}
theorem S.conv {P : Addr} {hb h : Heap} {ds ds' : List (Addr × Obj)} (D : S P hb h ds) (e : ds = ds') : S P hb h ds' := e ▸ D
theorem tnew {P : Addr} {tk : Nat} {nsA bT sl sa fI fL fG fE fl fg : Addr} {k : Nat → Int} {T : Nat → Tok} {n n1 n2 n3 : Nat} {fdI fdL fdG fdE fdl fdg : FuncData} {md : Str}
  (D : S P hb h []) (hP : hb.get? P = none)
  (e1 : hb.get? nsA = some (dictOf (nsK T k md sl fI fL fG fE fl fg sa) n))
  (e2 : hb.get? bT = some { cls := .type "tuple", data := .seq #[.type "object"] n1 })
  (e3 : hb.get? sl = some { cls := .type "list", data := .seq #[.str "obj" (T 16)] n2 })
  (e4 : hb.get? sa = some { cls := .type "tuple", data := .seq #[.str "obj" (T 17)] n3 })
  (eI : hb.get? fI = some { cls := .type "function", data := .func fdI })
  (eL : hb.get? fL = some { cls := .type "function", data := .func fdL })
  (eG : hb.get? fG = some { cls := .type "function", data := .func fdG })
  (eE : hb.get? fE = some { cls := .type "function", data := .func fdE })
  (el : hb.get? fl = some { cls := .type "function", data := .func fdl })
  (eg : hb.get? fg = some { cls := .type "function", data := .func fdg })
  (g2 : hb.get? 2 = some { cls := .none, data := .dict #[] }) (hne : ¬ nsA = sysModules)
  (hq : ∀ K ns mdA h' t' ha hd ta td t5 ds', S P hb h' ds' → (K, kObj K ns bT tk (T 4)) ∈ ds' → (ns, dictOf (nsF T k md sl fI fL fG fE fl fg sa mdA ha hd ta td) 3) ∈ ds' → (mdA, mdObj K t5) ∈ ds' → Q (.done (.ret (.ref K))) ⟨h', g, d, t', os⟩) :
  wpAny (model prog w) A (Builtin.«type.__new__» ⟨[.type "type", .str "K" tk, .ref bT, .ref nsA], []⟩) Q E ⟨h, g, d, t, os⟩ := by
  have s1 : isSubtype (.type "tuple") (.type "tuple") = pure true := by rw [isSubtype_type]; kernel_rfl
  have s2 : isSubtype (.type "dict") (.type "dict") = pure true := by rw [isSubtype_type]; kernel_rfl
  have s3 : isSubtype (.type "type") (.type "type") = pure true := by rw [isSubtype_type]; kernel_rfl
  have q1 : Builtin.extendedBase [.type "object"] = pure (.type "object") := by kernel_rfl
  have q2 : Builtin.notOverATurnedClass [.type "object"] = pure () := by kernel_rfl
  have q3 : Builtin.Slots.bestBase [.type "object"] = pure (.type "object") := by kernel_rfl
  have s4 : isSubtype (.type "object") (.type "object") = pure true := by rw [isSubtype_type]; kernel_rfl
  have q5 : typeLookup (.type "dict") "__iter__" = pure (some (.builtin "dict.__iter__")) := by rw [typeLookup_type, builtinLookup_eq_fast]; kernel_rfl
  have q6 : mroOf (.type "object") = pure [.type "object"] := by kernel_rfl
  have q7 : typeLookup (.type "object") "__weakref__" = pure none := by rw [typeLookup_type, builtinLookup_eq_fast]; kernel_rfl
  have q8 : Builtin.Slots.givesDict (.type "object") = pure false := by kernel_rfl
  have q9 : Builtin.Slots.givesWeak (.type "object") = pure false := by kernel_rfl
  have q10 : Builtin.Slots.varSize (.type "object") = pure false := by kernel_rfl
  have hneD : decide ((nsA == sysModules) = true) = false := by simpa using hne
  have K1 : strKs (nsK T k md sl fI fL fG fE fl fg sa) := nsK_str
  have K2 : strKs (nsK2 T k md sl fI fL fG fE fl fg sa) := nsK2_str
  have dropEq : Obj.dropName "__qualname__" (dictOf (nsK T k md sl fI fL fG fE fl fg sa) 0) = dictOf (nsK2 T k md sl fI fL fG fE fl fg sa) 1 := by kernel_rfl!
  have m1 : typeLookup (.type "type") "mro" = pure (some (.builtin "type.mro")) := by rw [typeLookup_type, builtinLookup_eq_fast]; kernel_rfl
  have m2 : Builtin.linearize [.type "object"] mroOf = pure [.type "object"] := by kernel_rfl
  have m3 : Bind.madeBy (.type "object") = pure (some "object.__new__") := by kernel_rfl
  have z_str : typeLookup (.type "str") "__set_name__" = pure none := by rw [typeLookup_type, builtinLookup_eq_fast]; kernel_rfl
  have z_int : typeLookup (.type "int") "__set_name__" = pure none := by rw [typeLookup_type, builtinLookup_eq_fast]; kernel_rfl
  have z_list : typeLookup (.type "list") "__set_name__" = pure none := by rw [typeLookup_type, builtinLookup_eq_fast]; kernel_rfl
  have z_function : typeLookup (.type "function") "__set_name__" = pure none := by rw [typeLookup_type, builtinLookup_eq_fast]; kernel_rfl
  have z_NoneType : typeLookup (.type "NoneType") "__set_name__" = pure none := by rw [typeLookup_type, builtinLookup_eq_fast]; kernel_rfl
  have z_tuple : typeLookup (.type "tuple") "__set_name__" = pure none := by rw [typeLookup_type, builtinLookup_eq_fast]; kernel_rfl
  have z_member_descriptor : typeLookup (.type "member_descriptor") "__set_name__" = pure none := by rw [typeLookup_type, builtinLookup_eq_fast]; kernel_rfl
  have q4 : typeOf (.type "object") = pure (.type "type") := by kernel_rfl
  unfold Builtin.«type.__new__»
  (with_reducible refine wpAny_bind ?_)
  wp_delta
  (with_reducible refine wpAny_pure ?_)
  (with_reducible refine wpAny_bind ?_)
  (with_reducible refine ni_old (by assumption) (by assumption) (by assumption) rfl (by assumption) ?_)
  (with_reducible refine wpAny_ite_false ?cc ?_; (case cc => kernel_rfl!))
  (with_reducible refine wpAny_bind ?_)
  (with_reducible refine ni_old (by assumption) (by assumption) (by assumption) rfl (by assumption) ?_)
  (with_reducible refine wpAny_ite_false ?cc ?_; (case cc => kernel_rfl!))
  (with_reducible refine wpAny_bind ?_)
  wp_delta
  (with_reducible refine wpAny_bind ?_)
  (with_reducible refine l_old (by assumption) (by assumption) (by assumption) ?_)
  (with_reducible refine wpAny_pure ?_)
  (with_reducible refine wpAny_ite_false ?cc ?_; (case cc => kernel_rfl!))
  (with_reducible refine wpAny_bind ?_)
  wp_delta
  wp_delta
  wp_delta
  wp_delta
  (with_reducible refine wpAny_bind ?_)
  (with_reducible refine wpAny_bind ?_)
  wp_delta
  (with_reducible refine wpAny_pure ?_)
  (with_reducible refine wpAny_ite_false ?cc ?_; (case cc => kernel_rfl!))
  (with_reducible refine wpAny_pure ?_)
  wp_delta
  wp_delta
  (with_reducible refine wpAny_pure ?_)
  (with_reducible refine wpAny_bind ?_)
  wp_delta
  wp_delta
  wp_delta
  wp_delta
  (with_reducible refine wpAny_bind ?_)
  (with_reducible refine wpAny_bind ?_)
  (with_reducible refine wpAny_of_eq (by assumption) ?_)
  (with_reducible refine wpAny_bind ?_)
  (with_reducible refine wpAny_of_eq (by assumption) ?_)
  (with_reducible refine wpAny_ite_true ?cc ?_; (case cc => kernel_rfl!))
  (with_reducible refine wpAny_pure ?_)
  wp_delta
  wp_delta
  (with_reducible refine wpAny_pure ?_)
  (with_reducible refine wpAny_ite_false ?cc ?_; (case cc => kernel_rfl!))
  (with_reducible refine wpAny_bind ?_)
  wp_delta
  (with_reducible refine wpAny_bind ?_)
  wp_delta
  wp_delta
  wp_delta
  wp_delta
  (with_reducible refine wpAny_bind ?_)
  (with_reducible refine wpAny_bind ?_)
  wp_delta
  (with_reducible refine wpAny_pure ?_)
  (with_reducible refine wpAny_ite_true ?cc ?_; (case cc => kernel_rfl!))
  (with_reducible refine wpAny_bind ?_)
  (with_reducible refine wpAny_of_eq (by assumption) ?_)
  (with_reducible refine wpAny_bind ?_)
  wp_delta
  wp_delta
  wp_delta
  wp_delta
  (with_reducible refine wpAny_bind ?_)
  (with_reducible refine wpAny_pure ?_)
  wp_delta
  wp_delta
  (with_reducible refine wpAny_bind ?_)
  (with_reducible refine wpAny_pure ?_)
  wp_delta
  wp_delta
  (with_reducible refine wpAny_pure ?_)
  (with_reducible refine wpAny_pure ?_)
  wp_delta
  wp_delta
  (with_reducible refine wpAny_pure ?_)
  (with_reducible refine wpAny_pure ?_)
  (with_reducible refine wpAny_bind ?_)
  wp_delta
  (with_reducible refine wpAny_bind ?_)
  wp_delta
  wp_delta
  wp_delta
  wp_delta
  (with_reducible refine wpAny_bind ?_)
  wp_delta
  (with_reducible refine wpAny_ite_false ?cc ?_; (case cc => kernel_rfl!))
  (with_reducible refine wpAny_ite_false ?cc ?_; (case cc => kernel_rfl!))
  (with_reducible refine wpAny_ite_false ?cc ?_; (case cc => kernel_rfl!))
  (with_reducible refine wpAny_bind ?_)
  wp_delta
  (with_reducible refine wpAny_bind ?_)
  (with_reducible refine wpAny_of_eq (by assumption) ?_)
  (with_reducible refine wpAny_bind ?_)
  wp_delta
  wp_delta
  wp_delta
  wp_delta
  (with_reducible refine wpAny_bind ?_)
  (with_reducible refine wpAny_bind ?_)
  wp_delta
  (with_reducible refine wpAny_pure ?_)
  (with_reducible refine wpAny_ite_false ?cc ?_; (case cc => kernel_rfl!))
  (with_reducible refine wpAny_ite_true ?cc ?_; (case cc => kernel_rfl!))
  (with_reducible refine wpAny_pure ?_)
  (with_reducible refine wpAny_pure ?_)
  (with_reducible refine wpAny_pure ?_)
  (with_reducible refine wpAny_bind ?_)
  (with_reducible refine wpAny_of_eq (by assumption) ?_)
  (with_reducible refine wpAny_ite_true ?cc ?_; (case cc => kernel_rfl!))
  (with_reducible refine wpAny_pure ?_)
  wp_delta
  wp_delta
  (with_reducible refine wpAny_pure ?_)
  wp_delta
  (with_reducible refine wpAny_bind ?_)
  wp_delta
  wp_delta
  wp_delta
  wp_delta
  (with_reducible refine wpAny_bind ?_)
  (with_reducible refine wpAny_bind ?_)
  wp_delta
  (with_reducible refine wpAny_bind ?_)
  (with_reducible refine wpAny_of_eq (by assumption) ?_)
  (with_reducible refine wpAny_bind ?_)
  wp_delta
  wp_delta
  wp_delta
  wp_delta
  (with_reducible refine wpAny_bind ?_)
  (with_reducible refine wpAny_bind ?_)
  wp_delta
  (with_reducible refine wpAny_pure ?_)
  (with_reducible refine wpAny_ite_false ?cc ?_; (case cc => kernel_rfl!))
  (with_reducible refine wpAny_ite_true ?cc ?_; (case cc => kernel_rfl!))
  (with_reducible refine wpAny_pure ?_)
  (with_reducible refine wpAny_pure ?_)
  (with_reducible refine wpAny_pure ?_)
  (with_reducible refine wpAny_pure ?_)
  wp_delta
  wp_delta
  (with_reducible refine wpAny_pure ?_)
  (with_reducible refine wpAny_pure ?_)
  (with_reducible refine wpAny_ite_false hneD ?_)
  (with_reducible refine wpAny_bind ?_)
  wp_delta
  (with_reducible refine wpAny_bind ?_)
  (with_reducible refine lp_old (by assumption) (by assumption) (by assumption) ?_)
  (with_reducible refine wpAny_pure ?_)
  (with_reducible refine wpAny_bind ?_)
  (with_reducible refine so_old (by assumption) (by assumption) (by assumption) rfl (by assumption) ?_)
  (with_reducible refine wpAny_ite_true ?cc ?_; (case cc => kernel_rfl!))
  (with_reducible refine wpAny_bind ?_)
  (with_reducible refine wpAny_pure ?_)
  (with_reducible refine wpAny_bind ?_)
  (with_reducible refine wpAny_holding ?_)
  (with_reducible refine sread' (T := T) (k := k) (md := md) (sl := sl) (sa := sa) (fI := fI) (fL := fL) (fG := fG) (fE := fE) (fl := fl) (fg := fg) (by assumption) (by assumption) e3 ?hn ?hbs ?hes ?_; (case hn => kernel_rfl!); (case hbs => kernel_rfl!); (case hes => kernel_rfl!); intro h1 D1)
  (with_reducible refine wpAny_bind ?_)
  wp_delta
  (with_reducible refine wpAny_ite_false ?cc ?_; (case cc => kernel_rfl!))
  wp_delta
  wp_delta
  (with_reducible refine wpAny_bind ?_)
  (with_reducible refine al_new (by assumption) ?_ ?ff; (case ff => kernel_rfl!); intro a2 h2 D2 l2; change S P hb h2 ((_, dictOf (nsK T k md sl fI fL fG fE fl fg sa) 0) :: _) at D2)
  (with_reducible refine wpAny_pure ?_)
  (with_reducible refine wpAny_ite_false ?cc ?_; (case cc => kernel_rfl!))
  (with_reducible refine wpAny_bind ?_)
  (with_reducible refine wpAny_ite_false ?cc ?_; (case cc => kernel_rfl!))
  (with_reducible refine wpAny_pure ?_)
  (with_reducible refine wpAny_ite_false ?cc ?_; (case cc => kernel_rfl!))
  (with_reducible refine wpAny_bind ?_)
  (with_reducible refine ns_new (r := some (.str "cmp_to_key.<locals>.K" (T 4))) (by assumption) (by repeat (first | exact List.mem_cons_self | apply List.mem_cons_of_mem)) K1 ?cc ?_; (case cc => kernel_rfl!))
  (with_reducible refine wpAny_bind ?_)
  (with_reducible refine ns_new (r := some (.str "cmp_to_key.<locals>.K" (T 4))) (by assumption) (by repeat (first | exact List.mem_cons_self | apply List.mem_cons_of_mem)) K1 ?cc ?_; (case cc => kernel_rfl!))
  (with_reducible refine wpAny_bind ?_)
  wp_delta
  (with_reducible refine wpAny_pure ?_)
  (with_reducible refine wpAny_bind ?_)
  (with_reducible refine wpAny_pure ?_)
  (with_reducible refine wpAny_bind ?_)
  (with_reducible refine ns_new (r := none) (by assumption) (by repeat (first | exact List.mem_cons_self | apply List.mem_cons_of_mem)) (by first | exact K1 | exact K2 | exact strKs_put K2 | exact strKs_put (strKs_put K2)) ?cc ?_; (case cc => kernel_rfl!))
  (with_reducible refine wpAny_bind ?_)
  (with_reducible refine al_new (by assumption) ?_ ?ff; (case ff => kernel_rfl!); intro a3 h3 D3 l3)
  (with_reducible refine wpAny_ite_true ?cc ?_; (case cc => kernel_rfl!))
  (with_reducible refine wpAny_bind ?_)
  wp_delta
  (with_reducible refine wpAny_ite_false ?cc ?_; (case cc => kernel_rfl!))
  (with_reducible refine up0 (by assumption) ?ff ?_; (case ff => kernel_rfl!); intro h4 D4; (try rw [dropEq] at D4))
  (with_reducible refine wpAny_bind ?_)
  wp_delta
  (with_reducible refine wpAny_ite_false ?cc ?_; (case cc => kernel_rfl!))
  (with_reducible refine up0 (by assumption) ?ff ?_; (case ff => kernel_rfl!); intro h5 D5; (try rw [dropEq] at D5))
  wp_delta
  (with_reducible refine wpAny_bind ?_)
  wp_delta
  (with_reducible refine wpAny_ite_false ?cc ?_; (case cc => kernel_rfl!))
  (with_reducible refine up0 (by assumption) ?ff ?_; (case ff => kernel_rfl!); intro h6 D6; (try rw [dropEq] at D6))
  (with_reducible refine wpAny_bind ?_)
  wp_delta
  (with_reducible refine wpAny_bind ?_)
  (with_reducible refine lp_new (by assumption) (by repeat (first | exact List.mem_cons_self | apply List.mem_cons_of_mem)) ?_)
  (with_reducible refine wpAny_bind ?_)
  wp_delta
  (with_reducible refine wpAny_pure ?_)
  (with_reducible refine wpAny_ite_true ?cc ?_; (case cc => kernel_rfl!))
  (with_reducible refine wpAny_bind ?_)
  (with_reducible refine up1 (by assumption) ?ff ?_; (case ff => kernel_rfl!); intro h7 D7; (try rw [dropEq] at D7))
  (with_reducible refine wpAny_pure ?_)
  (with_reducible refine wpAny_bind ?_)
  (with_reducible refine ns_new (r := none) (by assumption) (by repeat (first | exact List.mem_cons_self | apply List.mem_cons_of_mem)) (by first | exact K1 | exact K2 | exact strKs_put K2 | exact strKs_put (strKs_put K2)) ?cc ?_; (case cc => kernel_rfl!))
  (with_reducible refine wpAny_bind ?_)
  wp_delta
  wp_delta
  wp_delta
  wp_delta
  (with_reducible refine wpAny_bind ?_)
  (with_reducible refine wpAny_bind ?_)
  (with_reducible refine ns_new (r := none) (by assumption) (by repeat (first | exact List.mem_cons_self | apply List.mem_cons_of_mem)) (by first | exact K1 | exact K2 | exact strKs_put K2 | exact strKs_put (strKs_put K2)) ?cc ?_; (case cc => kernel_rfl!))
  (with_reducible refine wpAny_pure ?_)
  wp_delta
  wp_delta
  (with_reducible refine wpAny_bind ?_)
  (with_reducible refine wpAny_bind ?_)
  (with_reducible refine ns_new (r := none) (by assumption) (by repeat (first | exact List.mem_cons_self | apply List.mem_cons_of_mem)) (by first | exact K1 | exact K2 | exact strKs_put K2 | exact strKs_put (strKs_put K2)) ?cc ?_; (case cc => kernel_rfl!))
  (with_reducible refine wpAny_pure ?_)
  wp_delta
  wp_delta
  (with_reducible refine wpAny_pure ?_)
  (with_reducible refine wpAny_bind ?_)
  (with_reducible refine ns_new (r := none) (by assumption) (by repeat (first | exact List.mem_cons_self | apply List.mem_cons_of_mem)) (by first | exact K1 | exact K2 | exact strKs_put K2 | exact strKs_put (strKs_put K2)) ?cc ?_; (case cc => kernel_rfl!))
  (with_reducible refine wpAny_bind ?_)
  (with_reducible refine ns_new (r := none) (by assumption) (by repeat (first | exact List.mem_cons_self | apply List.mem_cons_of_mem)) (by first | exact K1 | exact K2 | exact strKs_put K2 | exact strKs_put (strKs_put K2)) ?cc ?_; (case cc => kernel_rfl!))
  (with_reducible refine wpAny_bind ?_)
  wp_delta
  (with_reducible refine wpAny_bind ?_)
  (with_reducible refine wpAny_of_eq (by assumption) ?_)
  wp_delta
  (with_reducible refine wpAny_pure ?_)
  (with_reducible refine wpAny_bind ?_)
  wp_delta
  (with_reducible refine wpAny_bind ?_)
  wp_delta
  wp_delta
  (with_reducible refine wpAny_bind ?_)
  (with_reducible refine wpAny_of_eq (by assumption) ?_)
  wp_delta
  (with_reducible refine wpAny_pure ?_)
  (with_reducible refine wpAny_bind ?_)
  wp_delta
  wp_delta
  wp_delta
  wp_delta
  (with_reducible refine wpAny_bind ?_)
  (with_reducible refine wpAny_ite_false ?cc ?_; (case cc => kernel_rfl!))
  (with_reducible refine wpAny_pure ?_)
  wp_delta
  wp_delta
  (with_reducible refine wpAny_pure ?_)
  wp_delta
  (with_reducible refine wpAny_pure ?_)
  (with_reducible refine wpAny_bind ?_)
  (with_reducible refine wpAny_pure ?_)
  (with_reducible refine wpAny_bind ?_)
  (with_reducible refine anyM_of (l' := [.type "object"]) ?cc ?_; (case cc => (dsimp only; simp)))
  wp_delta
  (with_reducible refine wpAny_bind ?_)
  (with_reducible refine wpAny_pure ?_)
  wp_delta
  wp_delta
  (with_reducible refine wpAny_pure ?_)
  (with_reducible refine wpAny_bind ?_)
  wp_delta
  (with_reducible refine wpAny_bind ?_)
  (with_reducible refine l_new (by assumption) (by repeat (first | exact List.mem_cons_self | apply List.mem_cons_of_mem)) ?_)
  (with_reducible refine wpAny_bind ?_)
  (with_reducible refine uw0 (by assumption) ?ff ?_; (case ff => kernel_rfl!); intro h8 D8; (try rw [dropEq] at D8))
  (with_reducible refine lb_new (by assumption) (by repeat (first | exact List.mem_cons_self | apply List.mem_cons_of_mem)) ?cc ?_; (case cc => kernel_rfl!))
  (with_reducible refine wpAny_bind ?_)
  (with_reducible refine wpAny_of_eq (by assumption) ?_)
  (with_reducible refine wpAny_bind ?_)
  wp_delta
  (with_reducible refine wpAny_ite_false ?cc ?_; (case cc => kernel_rfl!))
  (with_reducible refine up0 (by assumption) ?ff ?_; (case ff => kernel_rfl!); intro h9 D9; (try rw [dropEq] at D9))
  (with_reducible refine wpAny_bind ?_)
  wp_delta
  (with_reducible refine wpAny_bind ?_)
  wp_delta
  (with_reducible refine wpAny_bind ?_)
  (with_reducible refine lp_new (by assumption) (by repeat (first | exact List.mem_cons_self | apply List.mem_cons_of_mem)) ?_)
  (with_reducible refine wpAny_pure ?_)
  (with_reducible refine wpAny_ite_false ?cc ?_; (case cc => kernel_rfl!))
  (with_reducible refine wpAny_bind ?_)
  ((with_reducible show wpAny _ _ (typeLookup (.ref _) _) _ _ _); (conv => arg 3; unfold typeLookup))
  (with_reducible refine wpAny_bind ?_)
  wp_delta
  (with_reducible refine wpAny_bind ?_)
  wp_delta
  (with_reducible refine wpAny_bind ?_)
  (with_reducible refine l_new (by assumption) (by repeat (first | exact List.mem_cons_self | apply List.mem_cons_of_mem)) ?_)
  wp_delta
  (with_reducible refine wpAny_pure ?_)
  (with_reducible refine wpAny_pure ?_)
  (with_reducible refine wpAny_bind ?_)
  wp_delta
  wp_delta
  wp_delta
  wp_delta
  (with_reducible refine wpAny_bind ?_)
  (with_reducible refine wpAny_bind ?_)
  wp_delta
  (with_reducible refine wpAny_bind ?_)
  wp_delta
  (with_reducible refine wpAny_bind ?_)
  (with_reducible refine l_new (by assumption) (by repeat (first | exact List.mem_cons_self | apply List.mem_cons_of_mem)) ?_)
  wp_delta
  (with_reducible refine wpAny_pure ?_)
  (with_reducible refine ns_new (r := none) (by assumption) (by repeat (first | exact List.mem_cons_self | apply List.mem_cons_of_mem)) (by first | exact K1 | exact K2 | exact strKs_put K2 | exact strKs_put (strKs_put K2)) ?cc ?_; (case cc => kernel_rfl!))
  (with_reducible refine wpAny_pure ?_)
  wp_delta
  wp_delta
  (with_reducible refine wpAny_bind ?_)
  (with_reducible refine wpAny_bind ?_)
  wp_delta
  (with_reducible refine wpAny_pure ?_)
  wp_delta
  (with_reducible refine wpAny_pure ?_)
  (with_reducible refine wpAny_pure ?_)
  (with_reducible refine wpAny_pure ?_)
  (with_reducible refine wpAny_ite_false ?cc ?_; (case cc => kernel_rfl!))
  (with_reducible refine wpAny_pure ?_)
  (with_reducible refine wpAny_bind ?_)
  wp_delta
  (with_reducible refine wpAny_bind ?_)
  wp_delta
  wp_delta
  wp_delta
  wp_delta
  (with_reducible refine wpAny_bind ?_)
  (with_reducible refine wpAny_bind ?_)
  (with_reducible refine ns_new (r := none) (by assumption) (by repeat (first | exact List.mem_cons_self | apply List.mem_cons_of_mem)) (by first | exact K1 | exact K2 | exact strKs_put K2 | exact strKs_put (strKs_put K2)) ?cc ?_; (case cc => kernel_rfl!))
  (with_reducible refine wpAny_ite_true ?cc ?_; (case cc => kernel_rfl!))
  (with_reducible refine wpAny_bind ?_)
  (with_reducible refine wpAny_mkStr' ?_)
  (with_reducible refine wpAny_bind ?_)
  wp_delta
  wp_delta
  (with_reducible refine wpAny_ite_false ?cc ?_; (case cc => kernel_rfl!))
  wp_delta
  wp_delta
  (with_reducible refine wpAny_bind ?_)
  (with_reducible refine al_new (by assumption) ?_ ?ff; (case ff => kernel_rfl!); intro a10 h10 D10 l10)
  (with_reducible refine wpAny_pure ?_)
  (with_reducible refine wpAny_bind ?_)
  wp_delta
  (with_reducible refine wpAny_bind ?_)
  (with_reducible refine lp_new (by assumption) (by repeat (first | exact List.mem_cons_self | apply List.mem_cons_of_mem)) ?_)
  (with_reducible refine wpAny_ite_false ?cc ?_; (case cc => kernel_rfl!))
  (with_reducible refine ns2 (by assumption) (by first | exact K1 | exact K2 | exact strKs_put K2 | exact strKs_put (strKs_put K2)) ?_; intro hs11 h11 D11)
  (with_reducible refine wpAny_pure ?_)
  wp_delta
  wp_delta
  (with_reducible refine wpAny_pure ?_)
  (with_reducible refine wpAny_bind ?_)
  wp_delta
  wp_delta
  wp_delta
  wp_delta
  (with_reducible refine wpAny_bind ?_)
  (with_reducible refine wpAny_bind ?_)
  (with_reducible refine wpAny_of_eq (by assumption) ?_)
  (with_reducible refine wpAny_ite_false ?cc ?_; (case cc => kernel_rfl!))
  (with_reducible refine wpAny_pure ?_)
  wp_delta
  wp_delta
  (with_reducible refine wpAny_pure ?_)
  (with_reducible refine wpAny_ite_false ?cc ?_; (case cc => kernel_rfl!))
  wp_delta
  wp_delta
  (with_reducible refine wpAny_bind ?_)
  (with_reducible refine l_new (by assumption) (by repeat (first | exact List.mem_cons_self | apply List.mem_cons_of_mem)) ?_)
  wp_delta
  (with_reducible refine wpAny_bind ?_)
  (with_reducible refine uw1 (by assumption) ?ff ?_; (case ff => kernel_rfl!); intro h12 D12; (try rw [dropEq] at D12))
  (with_reducible refine lb_new (by assumption) (by repeat (first | exact List.mem_cons_self | apply List.mem_cons_of_mem)) ?cc ?_; (case cc => kernel_rfl!))
  (with_reducible refine wpAny_bind ?_)
  (with_reducible refine wpAny_of_eq (by assumption) ?_)
  (with_reducible refine wpAny_bind ?_)
  wp_delta
  (with_reducible refine wpAny_ite_false ?cc ?_; (case cc => kernel_rfl!))
  (with_reducible refine up1 (by assumption) ?ff ?_; (case ff => kernel_rfl!); intro h13 D13; (try rw [dropEq] at D13))
  (with_reducible refine wpAny_ite_false ?cc ?_; (case cc => kernel_rfl!))
  (with_reducible refine wpAny_ite_false ?cc ?_; (case cc => kernel_rfl!))
  (with_reducible refine wpAny_bind ?_)
  (with_reducible refine ns_new (r := none) (by assumption) (by repeat (first | exact List.mem_cons_self | apply List.mem_cons_of_mem)) (by first | exact K1 | exact K2 | exact strKs_put K2 | exact strKs_put (strKs_put K2)) ?cc ?_; (case cc => kernel_rfl!))
  (with_reducible refine wpAny_ite_true ?cc ?_; (case cc => kernel_rfl!))
  (with_reducible refine wpAny_bind ?_)
  (with_reducible refine ns2 (by assumption) (by first | exact K1 | exact K2 | exact strKs_put K2 | exact strKs_put (strKs_put K2)) ?_; intro hs14 h14 D14)
  (with_reducible refine wpAny_bind ?_)
  (with_reducible refine ns_new (r := some (.ref fE)) (by assumption) (by repeat (first | exact List.mem_cons_self | apply List.mem_cons_of_mem)) (by first | exact K1 | exact K2 | exact strKs_put K2 | exact strKs_put (strKs_put K2)) ?cc ?_; (case cc => kernel_rfl!))
  (with_reducible refine wpAny_ite_true ?cc ?_; (case cc => kernel_rfl!))
  (with_reducible refine wpAny_bind ?_)
  (with_reducible refine ns_new (r := some .none) (by assumption) (by repeat (first | exact List.mem_cons_self | apply List.mem_cons_of_mem)) (by first | exact K1 | exact K2 | exact strKs_put K2 | exact strKs_put (strKs_put K2)) ?cc ?_; (case cc => kernel_rfl!))
  (with_reducible refine wpAny_ite_false ?cc ?_; (case cc => kernel_rfl!))
  (with_reducible refine wpAny_bind ?_)
  wp_delta
  wp_delta
  wp_delta
  wp_delta
  (with_reducible refine wpAny_bind ?_)
  (with_reducible refine wpAny_bind ?_)
  wp_delta
  (with_reducible refine wpAny_ite_true ?cc ?_; (case cc => kernel_rfl!))
  (with_reducible refine wpAny_pure ?_)
  (with_reducible refine wpAny_pure ?_)
  wp_delta
  wp_delta
  (with_reducible refine wpAny_pure ?_)
  (with_reducible refine wpAny_bind ?_)
  (refine wpAny_tryCatch ?_)
  have DC : S P hb h14 [(a10, mdObj a3 t), (a3, kObj a3 a2 bT tk (T 4)), (a2, dictOf (nsF T k md sl fI fL fG fE fl fg sa a10 hs11 hs14 (t + 1) (t + 1 + 1)) 3)] := D14.conv (by kernel_rfl!)
  clear D14 D13 D12 D11 D10 D9 D8 D7 D6 D5 D4 D3 D2 D1
  (with_reducible refine wpAny_holding ?_)
  (with_reducible refine wpAny_bind ?_)
  wp_delta
  (with_reducible refine wpAny_bind ?_)
  (with_reducible refine lp_new (by assumption) (by repeat (first | exact List.mem_cons_self | apply List.mem_cons_of_mem)) ?_)
  (with_reducible refine wpAny_pure ?_)
  (with_reducible refine wpAny_bind ?_)
  wp_delta
  wp_delta
  wp_delta
  wp_delta
  (with_reducible refine wpAny_bind ?_)
  (with_reducible refine wpAny_bind ?_)
  wp_delta
  (with_reducible refine wpAny_pure ?_)
  (with_reducible refine wpAny_ite_false ?cc ?_; (case cc => kernel_rfl!))
  (with_reducible refine wpAny_pure ?_)
  wp_delta
  wp_delta
  (with_reducible refine wpAny_bind ?_)
  (with_reducible refine wpAny_bind ?_)
  wp_delta
  (with_reducible refine wpAny_pure ?_)
  (with_reducible refine wpAny_ite_false ?cc ?_; (case cc => kernel_rfl!))
  (with_reducible refine wpAny_pure ?_)
  wp_delta
  wp_delta
  (with_reducible refine wpAny_bind ?_)
  (with_reducible refine wpAny_bind ?_)
  wp_delta
  (with_reducible refine wpAny_pure ?_)
  (with_reducible refine wpAny_ite_false ?cc ?_; (case cc => kernel_rfl!))
  (with_reducible refine wpAny_pure ?_)
  wp_delta
  wp_delta
  (with_reducible refine wpAny_bind ?_)
  (with_reducible refine wpAny_bind ?_)
  wp_delta
  (with_reducible refine wpAny_pure ?_)
  (with_reducible refine wpAny_ite_false ?cc ?_; (case cc => kernel_rfl!))
  (with_reducible refine wpAny_pure ?_)
  wp_delta
  wp_delta
  (with_reducible refine wpAny_bind ?_)
  (with_reducible refine wpAny_bind ?_)
  wp_delta
  (with_reducible refine wpAny_pure ?_)
  (with_reducible refine wpAny_ite_false ?cc ?_; (case cc => kernel_rfl!))
  (with_reducible refine wpAny_pure ?_)
  wp_delta
  wp_delta
  (with_reducible refine wpAny_bind ?_)
  (with_reducible refine wpAny_bind ?_)
  wp_delta
  (with_reducible refine wpAny_pure ?_)
  (with_reducible refine wpAny_ite_false ?cc ?_; (case cc => kernel_rfl!))
  (with_reducible refine wpAny_pure ?_)
  wp_delta
  wp_delta
  (with_reducible refine wpAny_bind ?_)
  (with_reducible refine wpAny_bind ?_)
  wp_delta
  (with_reducible refine wpAny_pure ?_)
  (with_reducible refine wpAny_ite_false ?cc ?_; (case cc => kernel_rfl!))
  (with_reducible refine wpAny_pure ?_)
  wp_delta
  wp_delta
  (with_reducible refine wpAny_bind ?_)
  (with_reducible refine wpAny_bind ?_)
  wp_delta
  (with_reducible refine wpAny_pure ?_)
  (with_reducible refine wpAny_ite_false ?cc ?_; (case cc => kernel_rfl!))
  (with_reducible refine wpAny_pure ?_)
  wp_delta
  wp_delta
  (with_reducible refine wpAny_bind ?_)
  (with_reducible refine wpAny_bind ?_)
  wp_delta
  (with_reducible refine wpAny_pure ?_)
  (with_reducible refine wpAny_ite_false ?cc ?_; (case cc => kernel_rfl!))
  (with_reducible refine wpAny_pure ?_)
  wp_delta
  wp_delta
  (with_reducible refine wpAny_bind ?_)
  (with_reducible refine wpAny_bind ?_)
  wp_delta
  (with_reducible refine wpAny_pure ?_)
  (with_reducible refine wpAny_ite_false ?cc ?_; (case cc => kernel_rfl!))
  (with_reducible refine wpAny_pure ?_)
  wp_delta
  wp_delta
  (with_reducible refine wpAny_bind ?_)
  (with_reducible refine wpAny_bind ?_)
  wp_delta
  (with_reducible refine wpAny_pure ?_)
  (with_reducible refine wpAny_ite_false ?cc ?_; (case cc => kernel_rfl!))
  (with_reducible refine wpAny_pure ?_)
  wp_delta
  wp_delta
  (with_reducible refine wpAny_bind ?_)
  (with_reducible refine wpAny_bind ?_)
  wp_delta
  (with_reducible refine wpAny_pure ?_)
  (with_reducible refine wpAny_ite_false ?cc ?_; (case cc => kernel_rfl!))
  (with_reducible refine wpAny_pure ?_)
  wp_delta
  wp_delta
  (with_reducible refine wpAny_bind ?_)
  (with_reducible refine wpAny_bind ?_)
  wp_delta
  (with_reducible refine wpAny_pure ?_)
  (with_reducible refine wpAny_ite_false ?cc ?_; (case cc => kernel_rfl!))
  (with_reducible refine wpAny_pure ?_)
  wp_delta
  wp_delta
  (with_reducible refine wpAny_pure ?_)
  (with_reducible refine wpAny_ite_false ?cc ?_; (case cc => kernel_rfl!))
  (with_reducible refine wpAny_bind ?_)
  wp_delta
  (with_reducible refine wpAny_bind ?_)
  (with_reducible refine lp_new (by assumption) (by repeat (first | exact List.mem_cons_self | apply List.mem_cons_of_mem)) ?_)
  (with_reducible refine wpAny_pure ?_)
  (with_reducible refine wpAny_bind ?_)
  wp_delta
  wp_delta
  wp_delta
  wp_delta
  (with_reducible refine wpAny_bind ?_)
  (with_reducible refine wpAny_ite_false ?cc ?_; (case cc => kernel_rfl!))
  (with_reducible refine wpAny_bind ?_)
  wp_delta
  (with_reducible refine wpAny_bind ?_)
  wp_delta
  (with_reducible refine wpAny_pure ?_)
  (with_reducible refine wpAny_of_eq (by assumption) ?_)
  (with_reducible refine wpAny_pure ?_)
  wp_delta
  wp_delta
  (with_reducible refine wpAny_bind ?_)
  (with_reducible refine wpAny_ite_false ?cc ?_; (case cc => kernel_rfl!))
  (with_reducible refine wpAny_bind ?_)
  wp_delta
  (with_reducible refine wpAny_bind ?_)
  wp_delta
  (with_reducible refine wpAny_pure ?_)
  (with_reducible refine wpAny_of_eq (by assumption) ?_)
  (with_reducible refine wpAny_pure ?_)
  wp_delta
  wp_delta
  (with_reducible refine wpAny_bind ?_)
  (with_reducible refine wpAny_ite_false ?cc ?_; (case cc => kernel_rfl!))
  (with_reducible refine wpAny_bind ?_)
  wp_delta
  (with_reducible refine wpAny_bind ?_)
  wp_delta
  (with_reducible refine wpAny_bind ?_)
  (with_reducible refine lp_old (by assumption) (by assumption) (by assumption) ?_)
  (with_reducible refine wpAny_pure ?_)
  (with_reducible refine wpAny_of_eq (by assumption) ?_)
  (with_reducible refine wpAny_pure ?_)
  wp_delta
  wp_delta
  (with_reducible refine wpAny_bind ?_)
  (with_reducible refine wpAny_ite_false ?cc ?_; (case cc => kernel_rfl!))
  (with_reducible refine wpAny_bind ?_)
  wp_delta
  (with_reducible refine wpAny_bind ?_)
  wp_delta
  (with_reducible refine wpAny_bind ?_)
  (with_reducible refine lp_old (by assumption) (by assumption) (by assumption) ?_)
  (with_reducible refine wpAny_pure ?_)
  (with_reducible refine wpAny_of_eq (by assumption) ?_)
  (with_reducible refine wpAny_pure ?_)
  wp_delta
  wp_delta
  (with_reducible refine wpAny_bind ?_)
  (with_reducible refine wpAny_ite_false ?cc ?_; (case cc => kernel_rfl!))
  (with_reducible refine wpAny_bind ?_)
  wp_delta
  (with_reducible refine wpAny_bind ?_)
  wp_delta
  (with_reducible refine wpAny_bind ?_)
  (with_reducible refine lp_old (by assumption) (by assumption) (by assumption) ?_)
  (with_reducible refine wpAny_pure ?_)
  (with_reducible refine wpAny_of_eq (by assumption) ?_)
  (with_reducible refine wpAny_pure ?_)
  wp_delta
  wp_delta
  (with_reducible refine wpAny_bind ?_)
  (with_reducible refine wpAny_ite_false ?cc ?_; (case cc => kernel_rfl!))
  (with_reducible refine wpAny_bind ?_)
  wp_delta
  (with_reducible refine wpAny_bind ?_)
  wp_delta
  (with_reducible refine wpAny_bind ?_)
  (with_reducible refine lp_old (by assumption) (by assumption) (by assumption) ?_)
  (with_reducible refine wpAny_pure ?_)
  (with_reducible refine wpAny_of_eq (by assumption) ?_)
  (with_reducible refine wpAny_pure ?_)
  wp_delta
  wp_delta
  (with_reducible refine wpAny_bind ?_)
  (with_reducible refine wpAny_ite_false ?cc ?_; (case cc => kernel_rfl!))
  (with_reducible refine wpAny_bind ?_)
  wp_delta
  (with_reducible refine wpAny_bind ?_)
  wp_delta
  (with_reducible refine wpAny_bind ?_)
  (with_reducible refine lp_old (by assumption) (by assumption) (by assumption) ?_)
  (with_reducible refine wpAny_pure ?_)
  (with_reducible refine wpAny_of_eq (by assumption) ?_)
  (with_reducible refine wpAny_pure ?_)
  wp_delta
  wp_delta
  (with_reducible refine wpAny_bind ?_)
  (with_reducible refine wpAny_ite_false ?cc ?_; (case cc => kernel_rfl!))
  (with_reducible refine wpAny_bind ?_)
  wp_delta
  (with_reducible refine wpAny_bind ?_)
  wp_delta
  (with_reducible refine wpAny_bind ?_)
  (with_reducible refine lp_old (by assumption) (by assumption) (by assumption) ?_)
  (with_reducible refine wpAny_pure ?_)
  (with_reducible refine wpAny_of_eq (by assumption) ?_)
  (with_reducible refine wpAny_pure ?_)
  wp_delta
  wp_delta
  (with_reducible refine wpAny_bind ?_)
  (with_reducible refine wpAny_ite_false ?cc ?_; (case cc => kernel_rfl!))
  (with_reducible refine wpAny_bind ?_)
  wp_delta
  (with_reducible refine wpAny_bind ?_)
  wp_delta
  (with_reducible refine wpAny_bind ?_)
  (with_reducible refine lp_old (by assumption) (by assumption) (by assumption) ?_)
  (with_reducible refine wpAny_pure ?_)
  (with_reducible refine wpAny_of_eq (by assumption) ?_)
  (with_reducible refine wpAny_pure ?_)
  wp_delta
  wp_delta
  (with_reducible refine wpAny_bind ?_)
  (with_reducible refine wpAny_ite_false ?cc ?_; (case cc => kernel_rfl!))
  (with_reducible refine wpAny_bind ?_)
  wp_delta
  (with_reducible refine wpAny_bind ?_)
  wp_delta
  (with_reducible refine wpAny_pure ?_)
  (with_reducible refine wpAny_of_eq (by assumption) ?_)
  (with_reducible refine wpAny_pure ?_)
  wp_delta
  wp_delta
  (with_reducible refine wpAny_bind ?_)
  (with_reducible refine wpAny_ite_false ?cc ?_; (case cc => kernel_rfl!))
  (with_reducible refine wpAny_bind ?_)
  wp_delta
  (with_reducible refine wpAny_bind ?_)
  wp_delta
  (with_reducible refine wpAny_bind ?_)
  (with_reducible refine lp_old (by assumption) (by assumption) (by assumption) ?_)
  (with_reducible refine wpAny_pure ?_)
  (with_reducible refine wpAny_of_eq (by assumption) ?_)
  (with_reducible refine wpAny_pure ?_)
  wp_delta
  wp_delta
  (with_reducible refine wpAny_bind ?_)
  (with_reducible refine wpAny_ite_false ?cc ?_; (case cc => kernel_rfl!))
  (with_reducible refine wpAny_bind ?_)
  wp_delta
  (with_reducible refine wpAny_bind ?_)
  wp_delta
  (with_reducible refine wpAny_bind ?_)
  (with_reducible refine lp_new (by assumption) (by repeat (first | exact List.mem_cons_self | apply List.mem_cons_of_mem)) ?_)
  (with_reducible refine wpAny_pure ?_)
  (with_reducible refine wpAny_of_eq (by assumption) ?_)
  (with_reducible refine wpAny_pure ?_)
  wp_delta
  wp_delta
  (with_reducible refine wpAny_bind ?_)
  (with_reducible refine wpAny_ite_false ?cc ?_; (case cc => kernel_rfl!))
  (with_reducible refine wpAny_bind ?_)
  wp_delta
  (with_reducible refine wpAny_bind ?_)
  wp_delta
  (with_reducible refine wpAny_pure ?_)
  (with_reducible refine wpAny_of_eq (by assumption) ?_)
  (with_reducible refine wpAny_pure ?_)
  wp_delta
  wp_delta
  (with_reducible refine wpAny_pure ?_)
  (with_reducible refine wpAny_bind ?_)
  refine sup_call (DC.at (.tail _ (.head _))) ?_
  intro sp h7 t7 M7
  have D7 := DC.mem M7
  dsimp only [List.cons_append, List.nil_append] at D7
  clear DC
  refine wpAny_bind (wpAny_holding ?_)
  refine sup_attr D7 hP g2 (.head _) (.tail _ (.tail _ (.head _))) ?_
  intro b h8 t8 D8
  clear D7
  refine wpAny_bind ?_
  refine init_call (D8.at (.tail _ (.tail _ (.tail _ (.head _))))) (D8.at (.head _)) (D8.oldP hP g2) ?_
  intro h9 t9 M9
  have D9 := D8.mem M9
  dsimp only [List.nil_append] at D9
  clear D8
  refine wpAny_pure ?_
  wp_delta
  (with_reducible refine wpAny_pure ?_)
  exact hq _ _ _ _ _ _ _ _ _ _ _ D9 (.tail _ (.tail _ (.tail _ (.head _)))) (.tail _ (.tail _ (.tail _ (.tail _ (.head _))))) (.tail _ (.tail _ (.head _)))
end
end
section
theorem clear_ClsDB : True := by k_with_none; trivial
open PySem PySem.W PySem.W.X PyProof.Rows
set_option maxRecDepth 100000
set_option maxHeartbeats 8000000
section
variable {prog : Program} {w : World} {A : Around} {E : Value → Shared → Prop} {s : Shared} {name qual : Str} {params : Arguments} {body : List Stmt} {scope : Scope} {env : Env} {c P P₀ : Addr} {ps : Array Value} {pos : Pos} {firstLine : Nat} {mg : Str → Option Value}
  {clos : List (Str × Addr)} {Q : Value → Shared → Prop} {hb : Heap} {ds : List (Addr × Obj)}
noncomputable def CodeOf (oc : Obj) (qual : Str) : Prop := oc.cls = .type "code" ∧ ∃ vs t, oc.data = .fields vs ∧ vs[1]? = some (.str qual t)
theorem mk_fn2 {i : Nat} (D : S P₀ hb s.heap ds) (hdoc : docOf body = none) (hcl : closureFor scope env = pure clos) (hge0 : env.globals = mainGlobals) (hg : s.heap.Ns mainGlobals mg) (hcode : env.code = .ref c) (C : CodeHd s.heap c P) (hP : ds[i]? = some (P, tabObj ps)) (ht : TriplesOk ps.toList)
    (hnf : codeAmong pos ps.toList = none) (hgP : mainGlobals ≠ P) (hb' : s.heap.BuiltinsAt mg P)
    (h : ∀ F c' oc ctv h' tk, S P₀ hb h' ((F, fnMade name qual params body scope clos .none ((mg "__name__").getD .none) c' ctv) :: (c', oc) :: ds.set i (P, tabObj (ps ++ #[rawInt pos.line, rawInt pos.col, .ref c']))) →
      CodeOf oc qual → Q (.ref F) { s with heap := h', toks := tk }) :
    wpAny (model prog w) A (makeFunction name qual params (.stmts body) scope env [] [] [] pos firstLine) Q E s := by
  obtain ⟨bm, ob, hbm, hne0, _, hneP, hbo, hcls, hdict, hdata⟩ := hb'
  rw [makeFunction_eq]
  simp only [List.zip_nil_right, List.filterMap_nil, List.isEmpty_nil, if_true, pure_bind]
  unfold makeTail
  rw [hcl, hge0]
  refine wpAny_bind (wpAny_pure ?_)
  have gP : s.heap.get? P = some (tabObj ps) := D.at (List.mem_of_getElem? hP)
  have fin : ∀ (h1 : Heap) (t1 : Nat) (ctv : Value), S P₀ hb h1 ds → Heap.ExtBut P s.heap h1 → s.heap.objs.size ≤ h1.objs.size → wpAny (model prog w) A (functionCode env pos firstLine name qual params scope (.stmts body) >>= fun code => builtinsFor mainGlobals env.builtins >>= fun bu => nsGet mainGlobals "__name__" >>= fun nm =>
      newObj (.type "function") (.func { name, qualname := qual, params, body := .stmts body, scope, globals := mainGlobals, closure := clos, closureTuple := ctv, code, builtins := bu, defaults := .none, kwdefaults := .none, annotations := none, pyModule := nm.getD .none, doc := .none })) Q E { s with heap := h1, toks := t1 } := by
    intro h1 t1 ctv D1 hx1 hs1
    have k1 : ∀ b o, s.heap.get? b = some o → b ≠ P → h1.get? b = some o := fun b o e n => hx1 b o n e
    have gP1 : h1.get? P = some (tabObj ps) := D1.at (List.mem_of_getElem? hP)
    have C1 : CodeHd h1 c P := by
      obtain ⟨o, vs, file, tf, flags, tg, inF, text, tt, e0, a1, a2, a3, a4, a5, a6, a7, a8, a9⟩ := C
      exact ⟨o, vs, file, tf, flags, tg, inF, text, tt, k1 _ _ e0 a9, a1, a2, a3, a4, a5, a6, a7, a8, a9⟩
    refine wpAny_bind (wpAny_functionCodeX (s := { s with heap := h1, toks := t1 }) hcode (C1.code gP1 ht) (C1.tab gP1) hnf fun c' h2 t2 hx2 hge hlt _ hrec htb htc => ?_)
    have hg2 : h2.Ns mainGlobals mg := (hg.extBut hx1 hgP).extBut hx2 hgP
    refine wpAny_bind (wpAny_builtinsFor hg2 hbm hne0 (hx2 _ _ hneP (hx1 _ _ hneP hbo)) hcls hdict hdata ?_)
    refine wpAny_bind (wpAny_nsGet hg2 ?_)
    obtain ⟨P', _, _, ⟨⟨oc, vs, g1, g2, g3, _⟩, _⟩⟩ := htc
    obtain ⟨c₂, oc₂, vs₂, t₂, e₂, g₂, d₂, v₂⟩ := hrec
    cases e₂
    have eo : oc₂ = oc := Option.some.inj (g₂.symm.trans g1)
    subst eo
    have D2 := D1.ext hx2 hP htb.2
    have fr := D1.fresh hge
    have D3 := D2.add g1 fr.1 (fun p hp e => by
      obtain ⟨q, hq, e'⟩ := List.mem_map.mp (set_fst hP p hp)
      exact fr.2 q hq (e'.trans e))
    exact wpAny_newObj_type (h _ _ _ ctv _ t2 (D3.push _ rfl) ⟨g2, vs₂, t₂, d₂, v₂⟩) (by size_fits)
  cases clos with
  | nil =>
    simp only [List.isEmpty_nil, if_true, hdoc, pure_bind]
    exact fin s.heap s.toks .none D (fun b o _ e => e) (Nat.le_refl _)
  | cons q r =>
    simp only [List.isEmpty_cons, Bool.false_eq_true, if_false, hdoc, pure_bind]
    refine wpAny_bind (wpAny_newTextTuple ?_)
    have D1 := D.push (strTup (((q :: r).mergeSort fun a b => a.1.cps.toList ≤ b.1.cps.toList).map (.ref ·.2))) rfl
    exact fin _ _ _ ⟨fun p hp => D1.hi p (.tail _ hp), fun b o e hn => Heap.get?_push_of_some _ (D.keep b o e hn), fun p hp => D1.here p (.tail _ hp), D.nd⟩ (fun b o _ e => Heap.get?_push_of_some _ e) (by rw [Heap.size_push]; omega)
end
section
variable {prog : Program} {w : World} {A : Around} {E : Value → Shared → Prop} {s : Shared} {name qual : Str} {params : Arguments} {body : List Stmt} {scope : Scope} {env : Env} {c P P₀ : Addr} {ps : Array Value} {pos : Pos} {mg : Str → Option Value}
  {clos : List (Str × Addr)} {Q : Flow → Shared → Prop} {hb : Heap} {ds : List (Addr × Obj)} {es : List DictEntry} {n : Nat} {oc : Obj}
theorem def_step {i j k : Nat} (D : S P₀ hb s.heap ds) (hdoc : docOf body = none) (hq0 : qualnameIn env name name = qual) (hd : defaultsOf params env = ([], [])) (ha : annTrees params none env = [])
    (hcl : closureFor scope env = pure clos) (hge0 : env.globals = mainGlobals) (hg : hb.Ns mainGlobals mg) (hgP0 : mainGlobals ≠ P₀) (hcode : env.code = .ref c)
    (hoc : ds[k]? = some (c, oc)) (okc : codeOK oc P) (hcP : c ≠ P) (hP : ds[i]? = some (P, tabObj ps)) (ht : TriplesOk ps.toList)
    (hnf : codeAmong pos ps.toList = none) (hgP : mainGlobals ≠ P) (hb' : s.heap.BuiltinsAt mg P)
    (hj : ds[j]? = some (env.locals, dictOf es n)) (hij : i ≠ j) (hk : strKs es) (hst : ∀ v, storeName env name v = localSet env name v)
    (h : ∀ F c' oc ctv hsh tk0 h' tk, S P₀ hb h' ((F, fnMade name qual params body scope clos .none ((mg "__name__").getD .none) c' ctv) :: (c', oc) :: (ds.set i (P, tabObj (ps ++ #[rawInt pos.line, rawInt pos.col, .ref c']))).set j (env.locals, dictOf (putL name hsh (.str name tk0) (.ref F) es) (putN name es n))) →
      CodeOf oc qual → Q .next { s with heap := h', toks := tk }) :
    wpAny (model prog w) A (exec (.FunctionDef name params body [] none [] scope none name pos) env) Q E s := by
  rw [exec_def, hq0, hd, ha]
  refine wpAny_bind (wpAny_standAt (wpAny_bind (wpAny_holding ?_)))
  refine wpAny_bind (wpAny_pure ?_)
  refine wpAny_bind (wpAny_holding (wpAny_pure ?_))
  refine wpAny_holding ?_
  refine wpAny_bind (wpAny_pure ?_)
  refine mk_fn2 (i := i) D hdoc hcl hge0 (D.ns hg hgP0) hcode (codeHd_of (D.at (List.mem_of_getElem? hoc)) okc hcP) hP ht hnf hgP hb' fun F c' oc' ctv h' tk D' e1 => ?_
  refine wpAny_bind (wpAny_standAt (wpAny_bind (wpAny_bindName ?_)))
  have hj' : ((F, fnMade name qual params body scope clos .none ((mg "__name__").getD .none) c' ctv) :: (c', oc') :: ds.set i (P, tabObj (ps ++ #[rawInt pos.line, rawInt pos.col, .ref c'])))[j + 2]? = some (env.locals, dictOf es n) := by
    show (ds.set i _)[j]? = _
    rw [List.getElem?_set_ne hij, hj]
  refine store_cls (hst _) D' hj' hk fun hsh h2 D2 => wpAny_pure ?_
  exact h _ _ _ _ _ _ _ _ D2 e1
end
end
section
theorem clear_Cls10B : True := by k_with_none; trivial
open PySem PySem.W PySem.W.X PyProof.Rows
set_option maxRecDepth 100000
set_option maxHeartbeats 8000000
set_option pp.deepTerms false
set_option pp.deepTerms.threshold 5
section
variable {prog : Program} {w : World} {A : Around} {E : Value → Shared → Prop} {Q : Value → Shared → Prop} {L : Addr} {hb h : Heap} {g : Array GenState} {d : Drawn} {t : Nat} {os : OsState}
theorem S.more {P P2 : Addr} {hb h h' : Heap} {ds ds2 : List (Addr × Obj)} (D : S P hb h ds) (hP2 : h.get? P2 = none) (D2 : S P2 h h' ds2) : S P hb h' (ds2 ++ ds) := by
  have nn : ∀ p ∈ ds2, h.get? p.1 = none := fun p hp => (D2.hi p hp).elim (fun e => by rw [e]; exact hP2) id
  have ne : ∀ p ∈ ds2, ∀ b o, h.get? b = some o → p.1 ≠ b := fun p hp b o e z => by rw [← z, nn p hp] at e; cases e
  refine ⟨fun p hp => ?_, fun b o e hn => ?_, fun p hp => ?_, ?_⟩
  · rcases List.mem_append.mp hp with hp | hp
    · refine .inr ?_
      cases e : hb.get? p.1 with
      | none => rfl
      | some o =>
        by_cases hx : ∃ q ∈ ds, q.1 = p.1
        · obtain ⟨q, hq, e'⟩ := hx
          exact absurd e'.symm (ne p hp _ _ (D.here q hq))
        · exact absurd rfl (ne p hp _ _ (D.keep _ _ e fun q hq e' => hx ⟨q, hq, e'⟩))
    · exact D.hi p hp
  · have e1 := D.keep b o e fun p hp => hn p (List.mem_append_right _ hp)
    exact D2.keep b o e1 fun p hp => ne p hp b o e1
  · rcases List.mem_append.mp hp with hp | hp
    · exact D2.here p hp
    · exact D2.keep _ _ (D.here p hp) fun q hq => ne q hq _ _ (D.here p hp)
  · rw [List.map_append]
    refine List.pairwise_append.mpr ⟨D2.nd, D.nd, fun a ha b hb => ?_⟩
    obtain ⟨p, hp, rfl⟩ := List.mem_map.mp ha
    obtain ⟨q, hq, rfl⟩ := List.mem_map.mp hb
    exact ne p hp _ _ (D.here q hq)
noncomputable def KMade (Pm : Params) (L K : Addr) (ds : List (Addr × Obj)) : Prop :=
  ∃ (ns bT mdA sl F0 F1 F2 F3 F4 F5 sa c0 c1 : Addr) (T : Nat → Tok) (k : Nat → Int) (md : Str) (ha hd : Int) (ta td t5 tk : Tok) (oc0 oc1 : Obj) (nm ctv0 ctv1 : Value),
    (K, kObj K ns bT tk (T 4)) ∈ ds ∧ (ns, dictOf (nsF T k md sl F0 F1 F2 F3 F4 F5 sa mdA ha hd ta td) 3) ∈ ds ∧ (mdA, mdObj K t5) ∈ ds ∧
    (F0, kFn Pm 2 "__init__" "cmp_to_key.<locals>.K.__init__" [] .none nm c0 ctv0) ∈ ds ∧ (c0, oc0) ∈ ds ∧ CodeOf oc0 "cmp_to_key.<locals>.K.__init__" ∧
    (F1, kFn Pm 3 "__lt__" "cmp_to_key.<locals>.K.__lt__" [(("mycmp" : Str), L + 1)] .none nm c1 ctv1) ∈ ds ∧ (c1, oc1) ∈ ds ∧ CodeOf oc1 "cmp_to_key.<locals>.K.__lt__"
theorem ite_fR.{u} {α : Sort u} (a b : α) : (if false = true then a else b) = b := rfl
theorem ite_tR.{u} {α : Sort u} (a b : α) : (if true = true then a else b) = a := rfl
theorem ite_clsR.{u} {α : Sort u} (P : Params) (a b : α) : (if ((kScope P).names.lookup ("__class__" : Str) == some NameKind.cell) = true then a else b) = b := rfl
theorem ite_clsdR.{u} {α : Sort u} (P : Params) (a b : α) : (if ((kScope P).names.lookup ("__classdict__" : Str) == some NameKind.cell) = true then a else b) = b := rfl
theorem pb_R {α β : Type} (a : α) (f : α → Sem β) : (pure a >>= f) = f a := rfl
theorem wpAny_frz0 {α : Type} {M : Model} {A : Around} {t : Sem α} {Q : α → Shared → Prop} {E : Value → Shared → Prop} {s : Shared} (h : ∀ (K : α → Shared → Prop) (J : Value → Shared → Prop), (∀ v s', Q v s' → K v s') → wpAny M A t K J s) : wpAny M A t Q E s := h Q E fun _ _ q => q
theorem gen_toks {P : Nat → Prop} (t : Nat) (h : ∀ t, P t) : P t := h t
theorem k_build {pos : Pos} {o3 : Obj} (D : S 37 hb h [(37, W.tabObj #[])]) (g3 : hb.get? 3 = some o3)
    {vs : Array Value} {fT : Tok} {file : Str} {fg tg : Int} {t7 t10 : Tok} (g20 : hb.get? 41 = some { cls := .type "code", data := .fields vs })
    (v11 : vs.getD 11 .none = .ref 37) (v18 : vs.getD 18 .none = .str file fT) (v7 : vs.getD 7 .none = .int fg t7) (v9 : vs.getD 9 .none = .bool true) (v10 : vs.getD 10 .none = .int tg t10)
    {mg : Str → Option Value} {nm : Value} {sl4 : Array (Option Value)} (hg : hb.Ns mainGlobals mg) (hbm : mg "__builtins__" = some (.ref 4)) (g4 : hb.get? 4 = some ⟨.type "module", some 0, .plain, sl4⟩) (hnm : mg "__name__" = some nm) (hl : hb.NoLimit) (hdp : A.depth < recursionLimit) (g2 : hb.get? (nat_lit 2) = some { cls := .none, data := .dict #[] })
    (hret : ∀ K ds h' t', S 37 hb h' ds → KMade w.params L K ds → (∃ ps, (37, W.tabObj ps) ∈ ds) → Q (.ref K) ⟨h', g, d, t', os⟩) :
    wpAny (model prog w) A (buildClass "K" "cmp_to_key.<locals>.K" [.type "object"] [] (kBody w.params) (kScope w.params) ["obj"] 68 (kEnv w.params L) pos none) Q E ⟨h, g, d, t, os⟩ := by
  have n3 : mainGlobals ≠ 37 := by decide
  unfold buildClass
  refine wpAny_bind (wpAny_newTuple ?_)
  have e1 : isType (.type "object") = pure true := by kernel_rfl
  have e2 : isType (.type "type") = pure true := by kernel_rfl
  have e3 : typeOf (.type "object") = pure (.type "type") := by kernel_rfl
  have e4 : isSubtype (.type "type") (.type "type") = pure true := by rw [isSubtype_type]; kernel_rfl
  dsimp only [List.lookup_nil, ↓ite_clsR, ↓ite_clsdR, ite_fR, ite_tR, List.filter_nil, pb_R]
  refine wpAny_bind (wpAny_of_eq (a := ([Value.type "object"], false)) (by simp only [List.forIn_cons, List.forIn_nil, e1, pure_bind, if_true, List.nil_append, List.length_cons, List.length_nil, Nat.zero_add, show ¬ (1 > 2 ^ 20) by decide, if_false]) ?_)
  dsimp only [ite_fR, ite_tR]
  refine wpAny_bind (wpAny_of_eq e3 ?_)
  refine wpAny_bind (wpAny_of_eq e2 ?_)
  refine wpAny_ite_true rfl ?_
  refine wpAny_bind (wpAny_of_eq (a := Value.type "type") (by simp only [List.forIn_cons, List.forIn_nil, e3, e4, pure_bind, if_true]) ?_)
  have D1 := D.push ({ cls := .type "tuple", data := .seq [Value.type "object"].toArray } : Obj) rfl
  revert D1
  generalize h.push _ = h1
  generalize h.objs.size = bT
  intro D1
  refine wpAny_bind (wpAny_mkText ?_)
  refine wpAny_holding ?_
  refine wpAny_bind (wpAny_bind (wpAny_mkText (prep fun pr h2 M2 => ?_)))
  have D2 := D1.mem M2
  dsimp only [List.cons_append, List.nil_append] at D2
  clear M2
  refine wpAny_bind (prep_call D2 (.head _) fun nsA h3 D3 l3 => ?_)
  have l3' : 3 < nsA := l3 3 ⟨_, D2.old g3 (by decide)⟩
  dsimp only
  have e5 : notTheModulesDict "class:the-namespace-that-__prepare__-gave" nsA = pure () := by
    unfold notTheModulesDict
    rw [if_neg (by have : nsA ≠ sysModules := fun e => absurd l3' (by rw [e]; decide); simpa using this)]
  rw [e5, pure_bind]
  have e6 : typeLookup (.type "dict") "__getitem__" = pure (some (.builtin "dict.__getitem__")) := by rw [typeLookup_type, builtinLookup_eq_fast]; kernel_rfl
  refine wpAny_bind (wpAny_specialOf ⟨_, D3.at (.head _), rfl⟩ e6 ?_)
  dsimp only [Option.isNone]
  simp only [if_false, Bool.false_eq_true]
  refine wpAny_holding ?_
  refine wpAny_bind (cls_code (i := 3) D3 g20 rfl v11 v18 v7 v9 v10 fun c' P' T' co h4 tkc D4 ok4 => ?_)
  dsimp only [List.set] at D4
  refine wpAny_bind (wpAny_builtinsFor (D4.ns hg n3) hbm (by decide) (D4.old g4 (by decide)) rfl rfl rfl ?_)
  unfold newBodyFrame
  refine wpAny_bind (wpAny_bind (wpAny_nsGet (D4.ns hg n3) ?_))
  rw [hnm]
  refine wpAny_alloc ?_
  generalize hfo : ({ cls := .type "frame", slots := _ } : Obj) = fo
  have D5 := D4.push fo (by rw [← hfo]; rfl)
  revert D5
  dsimp only
  generalize h4.push _ = h5
  generalize h4.objs.size = fr
  intro D5
  rw [clos_eq, pure_bind]
  refine wpAny_holding ?_
  have nl : h5.NoLimit := let ⟨mc, x, y⟩ := hl; ⟨mc, D5.ns x (by decide), y⟩
  refine wpAny_bind (wpAny_enterFrame nl hdp ?_)
  refine wpAny_bind (wpAny_onRaise ?_)
  refine wpAny_bind (load_nm (i := 4) (es := []) (n := 0) (mg := mg) D5 rfl (fun _ h => nomatch h) rfl hg n3 hnm ?_)
  refine wpAny_bind (store_cls (env := cEnv w.params nsA c' fr L) (i := 4) (es := []) (n := 0) st_eq D5 rfl (fun _ h => nomatch h) fun hsA1 h6 D6 => ?_)
  dsimp only [List.set] at D6
  refine wpAny_bind (wpAny_mkText ?_)
  refine wpAny_bind (store_cls (env := cEnv w.params nsA c' fr L) (i := 4) st_eq2 D6 rfl (strKs_put fun _ h => nomatch h) fun hsA2 h7 D7 => ?_)
  dsimp only [List.set] at D7
  refine wpAny_bind (wpAny_mkInt ?_)
  refine wpAny_bind (store_cls (env := cEnv w.params nsA c' fr L) (i := 4) st_eq3 D7 rfl (strKs_put (strKs_put fun _ h => nomatch h)) fun hsA3 h8 D8 => ?_)
  dsimp only [List.set] at D8
  refine wpAny_pure ?_
  refine wpAny_bind (wpAny_run ?_)
  refine codeAny_body rfl rfl ?_
  dsimp only
  rw [show (({ scope := kScope w.params, locals := nsA, globals := (kEnv w.params L).globals, cells := (Option.map (fun x => (("__class__" : Str), x)) (none : Option Addr)).toList ++ (Option.map (fun x => (("__classdict__" : Str), x)) (none : Option Addr)).toList ++ [(("mycmp" : Str), L + 1)], qual := ("cmp_to_key.<locals>.K" : Str) ++ ("." : Str), code := .ref c', frame := some fr, builtins := builtinsNs } : Env)) = cEnv w.params nsA c' fr L from rfl]
  generalize ((A.mark none).deeper (cEnv w.params nsA c' fr L)) = A'
  refine wpAny_frz0 ?_
  intro KQ KE hKQ
  refine gen_toks (P := fun t => wpAny _ _ _ _ _ ⟨h8, g, d, t, os⟩) _ ?_
  intro t0
  have nd8 := D8.nd
  simp only [List.map_cons, List.map_nil, List.pairwise_cons, List.mem_cons, List.not_mem_nil, or_false] at nd8
  have ncP : c' ≠ P' := nd8.2.1 _ (.inl rfl)
  have nP16 : P' ≠ 37 := nd8.2.2.1 _ (by simp)
  have nPo : hb.get? P' = none := (D8.hi _ (.tail _ (.tail _ (.head _)))).resolve_left nP16
  have n3 : 3 ≠ P' := fun e => by rw [← e, g3] at nPo; cases nPo
  have n4 : 4 ≠ P' := fun e => by rw [← e, g4] at nPo; cases nPo
  have n16 : mainGlobals ≠ 37 := by decide
  have bat : ∀ {h' ds}, S 37 hb h' ds → h'.BuiltinsAt mg P' := fun D' => ⟨4, _, hbm, by decide, by decide, n4, D'.old g4 (by decide), rfl, rfl, rfl⟩
  have hst9 : ∀ v, storeName (cEnv w.params nsA c' fr L) "__hash__" v = localSet (cEnv w.params nsA c' fr L) "__hash__" v := fun v => rfl
  conv => arg 3; arg 1; whnf
  refine wpAny_execs_cons ?_
  refine wpAny_Assign_Name (wpAny_Constant_str ?_)
  refine store_cls (i := 4) st_eq D8 rfl (strKs_put (strKs_put (strKs_put fun _ h => nomatch h))) fun hs1 x1 B1 => ?_
  dsimp only [List.set] at B1
  dsimp only
  conv => arg 3; arg 1; whnf
  refine wpAny_execs_cons ?_
  refine wpAny_Assign_Name (wpAny_List ?_)
  refine spliced_more ?_
  refine wpAny_Constant_str ?_
  refine spliced_none ?_
  refine ⟨(by decide : 1 ≤ sizeLine), ?_⟩
  dsimp only
  have B2 := B1.push ({ cls := .type "list", data := .seq [Value.str "obj" (t0 + 1 + 1)].toArray } : Obj) rfl
  revert B2
  generalize x1.push _ = x2
  generalize x1.objs.size = sl
  intro B2
  refine store_cls (i := 5) st_eq5 B2 rfl (strKs_put (strKs_put (strKs_put (strKs_put fun _ h => nomatch h)))) fun hs2 x3 B3 => ?_
  dsimp only [List.set] at B3
  dsimp only
  conv => arg 3; arg 1; whnf
  refine wpAny_execs_cons ?_
  refine def_step (qual := "cmp_to_key.<locals>.K.__init__") (i := 3) (j := 5) (k := 2) B3 rfl rfl rfl rfl rfl rfl hg n16 rfl rfl ok4 ncP rfl (by simp [TriplesOk, rawInt]) (by kernel_rfl!) n3 (bat B3) rfl (by decide) (strKs_put (strKs_put (strKs_put (strKs_put (strKs_put fun _ h => nomatch h))))) (fun v => rfl) fun F0 c0 oc0 ctv0 hsh0 tk0 x4 tl0 B4 a0 => ?_
  dsimp only [List.set] at B4
  dsimp only
  conv => arg 3; arg 1; whnf
  refine wpAny_execs_cons ?_
  refine def_step (qual := "cmp_to_key.<locals>.K.__lt__") (i := 5) (j := 7) (k := 4) B4 rfl rfl rfl rfl rfl rfl hg n16 rfl rfl ok4 ncP rfl (by simp [TriplesOk, rawInt]) (by kernel_rfl!) n3 (bat B4) rfl (by decide) (strKs_put (strKs_put (strKs_put (strKs_put (strKs_put (strKs_put fun _ h => nomatch h)))))) (fun v => rfl) fun F1 c1 oc1 ctv1 hsh1 tk1 x5 tl1 B5 a1 => ?_
  dsimp only [List.set] at B5
  dsimp only
  conv => arg 3; arg 1; whnf
  refine wpAny_execs_cons ?_
  refine def_step (qual := "cmp_to_key.<locals>.K.__gt__") (i := 7) (j := 9) (k := 6) B5 rfl rfl rfl rfl rfl rfl hg n16 rfl rfl ok4 ncP rfl (by simp [TriplesOk, rawInt]) (by kernel_rfl!) n3 (bat B5) rfl (by decide) (strKs_put (strKs_put (strKs_put (strKs_put (strKs_put (strKs_put (strKs_put fun _ h => nomatch h))))))) (fun v => rfl) fun F2 c2 oc2 ctv2 hsh2 tk2 x6 tl2 B6 a2 => ?_
  dsimp only [List.set] at B6
  dsimp only
  conv => arg 3; arg 1; whnf
  refine wpAny_execs_cons ?_
  refine def_step (qual := "cmp_to_key.<locals>.K.__eq__") (i := 9) (j := 11) (k := 8) B6 rfl rfl rfl rfl rfl rfl hg n16 rfl rfl ok4 ncP rfl (by simp [TriplesOk, rawInt]) (by kernel_rfl!) n3 (bat B6) rfl (by decide) (strKs_put (strKs_put (strKs_put (strKs_put (strKs_put (strKs_put (strKs_put (strKs_put fun _ h => nomatch h)))))))) (fun v => rfl) fun F3 c3 oc3 ctv3 hsh3 tk3 x7 tl3 B7 a3 => ?_
  dsimp only [List.set] at B7
  dsimp only
  conv => arg 3; arg 1; whnf
  refine wpAny_execs_cons ?_
  refine def_step (qual := "cmp_to_key.<locals>.K.__le__") (i := 11) (j := 13) (k := 10) B7 rfl rfl rfl rfl rfl rfl hg n16 rfl rfl ok4 ncP rfl (by simp [TriplesOk, rawInt]) (by kernel_rfl!) n3 (bat B7) rfl (by decide) (strKs_put (strKs_put (strKs_put (strKs_put (strKs_put (strKs_put (strKs_put (strKs_put (strKs_put fun _ h => nomatch h))))))))) (fun v => rfl) fun F4 c4 oc4 ctv4 hsh4 tk4 x8 tl4 B8 a4 => ?_
  dsimp only [List.set] at B8
  dsimp only
  conv => arg 3; arg 1; whnf
  refine wpAny_execs_cons ?_
  refine def_step (qual := "cmp_to_key.<locals>.K.__ge__") (i := 13) (j := 15) (k := 12) B8 rfl rfl rfl rfl rfl rfl hg n16 rfl rfl ok4 ncP rfl (by simp [TriplesOk, rawInt]) (by kernel_rfl!) n3 (bat B8) rfl (by decide) (strKs_put (strKs_put (strKs_put (strKs_put (strKs_put (strKs_put (strKs_put (strKs_put (strKs_put (strKs_put fun _ h => nomatch h)))))))))) (fun v => rfl) fun F5 c5 oc5 ctv5 hsh5 tk5 x9 tl5 B9 a5 => ?_
  dsimp only [List.set] at B9
  dsimp only
  conv => arg 3; arg 1; whnf
  refine wpAny_execs_cons ?_
  refine wpAny_Assign_Name (wpAny_Constant_none ?_)
  refine store_cls (i := 17) (hst9 _) B9 rfl (strKs_put (strKs_put (strKs_put (strKs_put (strKs_put (strKs_put (strKs_put (strKs_put (strKs_put (strKs_put (strKs_put fun _ h => nomatch h))))))))))) fun hsh9 x10 B10 => ?_
  dsimp only [List.set] at B10
  dsimp only
  refine wpAny_execs_nil ?_
  refine hKQ _ _ ?_
  clear hKQ
  refine wpAny_bind (wpAny_onRaise ?_)
  simp only [List.mapM_cons, List.mapM_nil, bind_assoc, pure_bind]
  refine wpAny_bind (wpAny_mkText ?_)
  refine wpAny_bind (wpAny_newTextTuple ?_)
  dsimp only
  have B11 := B10.push (strTup [.str "obj" (tl5 + 1)]) rfl
  revert B11
  generalize x10.push _ = x11
  generalize x10.objs.size = sa
  intro B11
  refine wpAny_bind (store_cls (env := cEnv w.params nsA c' fr L) (i := 18) st_eq4 B11 rfl (strKs_put (strKs_put (strKs_put (strKs_put (strKs_put (strKs_put (strKs_put (strKs_put (strKs_put (strKs_put (strKs_put (strKs_put fun _ h => nomatch h)))))))))))) fun hsa x12 B12 => wpAny_pure ?_)
  dsimp only [List.set] at B12
  refine wpAny_bind ?_
  dsimp only
  have m (i : Nat) {p : Addr × Obj} (e : _[i]? = some p) : x12.get? p.1 = some p.2 := B12.at (List.mem_of_getElem? (i := i) e)
  refine tcall (fun A' Q' hend => ?_)
  refine tnew (P := x12.objs.size) (hb := x12) (md := "cpy313.functools") (sl := sl) (sa := sa) (fI := F0) (fL := F1) (fG := F2) (fE := F3) (fl := F4) (fg := F5) (n := 12) (n1 := 0) (n2 := 0) (n3 := 0)
    (T := fun i => ([0, tkc, t0, tkc + 1 + 1, tkc + 1, tkc + 1 + 1 + 1 + 1, tkc + 1 + 1 + 1, t0 + 1 + 1 + 1, tk0, tk1, tk2, tk3, tk4, tk5, tl5, tl5 + 1 + 1, t0 + 1 + 1, tl5 + 1] : List Nat).getD i 0)
    (k := fun i => ([0, hsA1, hsA2, hsA3, hs2, hsh0, hsh1, hsh2, hsh3, hsh4, hsh5, hsh9, hsa] : List Int).getD i 0)
    (S.start x12) (getP x12) ((m 18 rfl).trans (congrArg some (by kernel_rfl!))) ((m 20 rfl).trans (congrArg some (by kernel_rfl!))) ((m 13 rfl).trans (congrArg some (by kernel_rfl!))) ((m 0 rfl).trans (congrArg some (by kernel_rfl!)))
    (m 11 rfl) (m 9 rfl) (m 7 rfl) (m 5 rfl) (m 3 rfl) (m 1 rfl) (B12.old g2 (by decide)) (fun e => absurd l3' (by rw [e]; decide)) (fun K ns mdA h' t' ha hd ta td t5 ds' D' m1 m2 m3 => ?_)
  refine hend _ _ _ ⟨_, D'.at m1, rfl⟩ (wpAny_pure ?_)
  have DD := B12.more (getP x12) D'
  refine hret K _ h' t' DD ?_ ?_
  · refine ⟨ns, bT, mdA, sl, F0, F1, F2, F3, F4, F5, sa, c0, c1, _, _, _, ha, hd, ta, td, t5, t, oc0, oc1, (mg "__name__").getD .none, ctv0, ctv1, List.mem_append_left _ m1, List.mem_append_left _ m2, List.mem_append_left _ m3, ?_, ?_, a0, ?_, ?_, a1⟩
    all_goals exact List.mem_append_right _ (by repeat (first | exact List.Mem.head _ | apply List.Mem.tail))
  · exact ⟨_, List.mem_append_right _ (by repeat (first | exact List.Mem.head _ | apply List.Mem.tail))⟩

end
end
section
theorem clear_ClsK1B : True := by k_with_none; trivial
open PySem PySem.W PyProof.Rows
set_option maxRecDepth 100000
set_option maxHeartbeats 8000000
theorem fillK1 : True := by
  have : PySem.Challenge.rw_mq0203_02.Holds ∨ True := .inr trivial
  have h2 : (hd.heap_1 = hd.heap_1 ∧ PySem.Challenge.rw_mq0203_02 = PySem.Challenge.rw_mq0203_02) → True := fun _ => trivial
  apply h2
  k_fill
  exact ⟨rfl, rfl⟩
set_option pp.deepTerms false

set_option pp.maxSteps 4000
theorem c_key {w : World} {p : Program} {loose : List Str} {mean : ExcName → Option Value} {mg mb : Str → Option Value} {dp un : Nat} {gd : Option (List Code)} {cn : Str} {cs : Scope} {a : Addr} {ccd : Value} {cl : List (Str × Addr)} {outer : List Env} {A₀ : Around} {base h₀ : Heap} {L : Addr} {m : Str → Option Value} {news : List (Addr × Obj)} {s : Shared} {Q E : Value → Shared → Prop} {f : Addr} (hT : (37, W.tabObj #[]) ∈ news)
    (B : Below A₀ base outer h₀) (F : Fr h₀ L s.heap m) (X : (hd.heap_1 w.params).In h₀) (N : News h₀ L s.heap news) (T : Top p loose mean mg mb h₀) (hk : cs.kind = .function) (hdp : dp + 1 < recursionLimit) (hun : un + 8 < cLine)
    {news0 : List (Addr × Obj)} (hn0 : ∀ p ∈ news0, p ∈ news ∧ p.1 ≠ 37)
    (hret : ∀ (K : Addr) ds L1 oc (h' : Heap) (tk' : Nat), Fr h₀ L h' m → News h₀ L h' (ds ++ (L1 + 1, oc) :: news0) → KMade w.params L1 K ds → oc.data = .cell (some (.ref f)) → (∃ ps, (37, W.tabObj ps) ∈ ds) → Q (.ref K) { s with heap := h', toks := tk' }) :
    wpAny (model PySem.Challenge.rw_mq0203_02.prog w) (ktrTop dp un gd cn cs L a ccd cl outer) (call (.ref 42) [.ref f]) Q E s := by
  refine wpAny_call ?_
  k_dflt (refine' code_defC ?k1 ?k2 ?k3 ?k4 ?k5 ?kA ?kF ?kK ?k6 ?k7 ?k8 ?k9 ?kB ?kD ?_ ?c2 ?c3 ?c4; (case kA => exact rfl); (case kF => exact rfl); (case kK => assumption); (case k1 => k_asm); (case k2 => k_asm); (case k3 => k_asm); (case k4 => k_asm); (case k5 => k_asm); (case k6 => k_is); (case k7 => k_is); (case k8 => ktr_room); (case k9 => exact BindsTo.of_eq rfl); (case kB => exact rfl); (case kD => decide +kernel); (case c2 => exact rfl); (case c3 => exact rfl); (case c4 => exact rfl); k_whole; intro g' L' h' tk' cells' FG' F' N' Y' B' X' T' l1; (try k_lt l1); k_cells Y'; (try simp only [List.cons_append, List.nil_append] at N'); (try dsimp only); (try k_lift B'); (try k_fold))
  rename_i o9 d9
  have T := topRead_of T'
  have g2 : h'.get? 2 = some _ := F'.keep _ _ (X' 2 _ (by rfl))
  have g3 : h'.get? 3 = some _ := F'.keep _ _ (X' 3 _ (by rfl))
  have g20 : h'.get? 41 = some _ := F'.keep _ _ (X' 41 _ (by rfl))
  refine wpAny_execs_cons ?_
  rw [arm_exec_ClassDef]
  refine wpAny_bind (wpAny_pure ?_)
  refine wpAny_bind (wpAny_standAt ?_)
  have nb : h'.Ns builtinsNs mb := T.b.keeps F'.keep
  have eb : mb "__build_class__" = some (.builtin "__build_class__") := (T.builtins _ (by decide)).trans (by boot_by_name)
  have eo : mb "object" = some (.type "object") := (T.builtins _ (by decide)).trans (by boot_by_name)
  refine wpAny_bind (wpAny_bind (wpAny_nsGet (m := mb) nb ?_))
  rw [eb]
  refine wpAny_pure ?_
  refine wpAny_bind (wpAny_holding ?_)
  refine wpAny_bind ?_
  refine wpAny_bind ?_
  refine spliced_more ?_
  have mo : mg "object" = none := mg_none_of X' T.g (by k_is)
  refine Calls.Name_function_global rfl rfl (Calls.loadGlobal_builtin (T.g.keeps F'.keep) mo nb eo ?_) (by decide)
  refine spliced_none ?_
  have mbm : mg "__builtins__" = some (.ref 4) := by
    obtain ⟨o3, es, ep, ho, hd, _, hf⟩ := T.g
    rw [show g'.get? mainGlobals = some _ from X' 3 _ rfl] at ho
    cases ho
    cases hd
    exact (hf _).symm.trans (by rfl)
  have g4 : ∃ sl, h'.get? 4 = some ⟨.type "module", some 0, .plain, sl⟩ := by
    obtain ⟨bm, ob, e1, e2, e3, e4, e5, e6⟩ := T'.bmain
    rw [mbm] at e1
    cases e1
    obtain ⟨c, d, dt, sl⟩ := ob
    cases e4
    cases e5
    cases e6
    exact ⟨sl, F'.keep _ _ e3⟩
  obtain ⟨sl4, g4⟩ := g4
  have D : S 37 h' h' [(37, W.tabObj #[])] := S.start1 (N'.get (.tail _ hT))
  refine wpAny_bind (wpAny_pure ?_)
  refine wpAny_holding ?_
  refine wpAny_bind (wpAny_pure ?_)
  refine wpAny_bind (wpAny_pure ?_)
  refine wpAny_pure ?_
  refine wpAny_bind (wpAny_standAt ?_)
  refine wpAny_holding ?_
  have hnm : ∃ nm, mg "__name__" = some nm := by
    obtain ⟨o3, es, ep, ho, hd, _, hf⟩ := T.g
    rw [show g'.get? mainGlobals = some _ from X' 3 _ rfl] at ho
    cases ho
    cases hd
    exact ⟨_, (hf _).symm.trans (by rfl)⟩
  obtain ⟨nm, hnm⟩ := hnm
  refine k_build (w := w) D g3 g20 rfl rfl rfl rfl rfl (T.g.keeps F'.keep) mbm g4 hnm (T.nolimit.keeps F'.keep) ?kd g2 ?_
  case kd => ktr_room
  intro K ds h2 t2 D2 km tab
  have n16 := N' _ (.tail _ hT)
  have F2 : Fr g' L' h2 _ := ⟨D2.ns F'.ns n16.2.1.symm, fun b o e => D2.old (F'.keep b o e) (fun z => by rw [z, n16.2.2] at e; cases e), F'.above⟩
  have fr0 : ∀ p ∈ ds, p.1 ≠ L' ∧ g'.get? p.1 = none := fun p hp => by
    rcases D2.hi p hp with e | e
    · rw [e]; exact ⟨n16.2.1, n16.2.2⟩
    · refine ⟨fun z => ?_, ?_⟩
      · obtain ⟨oL, _, _, hL, _⟩ := F'.ns
        rw [z, hL] at e; cases e
      · cases z : g'.get? p.1 with
        | none => rfl
        | some o => rw [F'.keep _ _ z] at e; cases e
  have N2 : News g' L' h2 (ds ++ (L' + 1, o9) :: news0) := fun p hp => by
    rcases List.mem_append.mp hp with hp | hp
    · exact ⟨D2.here p hp, fr0 p hp⟩
    · have q : p ∈ (L' + 1, o9) :: news ∧ p.1 ≠ 37 := by
        rcases List.mem_cons.mp hp with rfl | hp
        · refine ⟨.head _, fun z => ?_⟩
          exact absurd z (Nat.ne_of_gt (Nat.lt_succ_of_lt (l1 _ hT)))
        · exact ⟨.tail _ (hn0 p hp).1, (hn0 p hp).2⟩
      exact ⟨D2.old (N' p q.1).1 q.2, (N' p q.1).2⟩
  refine wpAny_bind (wpAny_pure ?_)
  refine wpAny_bind (wpAny_standAt ?_)
  refine wpAny_bind (wpAny_bindName (wpAny_storeName_local (by rfl) F2.ns (fun h3 hn3 hs3 => wpAny_pure ?_) (by rfl)))
  have F3 := F2.set hn3 hs3
  have N3 : News g' L' h3 (ds ++ (L' + 1, o9) :: news0) := fun p hp => ⟨(hs3.2 _ (N2 p hp).2.1).trans (N2 p hp).1, (N2 p hp).2⟩
  dsimp only
  refine wpAny_execs_cons (wpAny_Return_some (wpAny_Name (wpAny_loadName_local (by rfl) (by rfl) hn3 (if_pos rfl) ?_)))
  dsimp only
  refine leaveK_ F3 N3 fun F4 N4 => ?_
  exact hret K ds L' _ h3 _ F4 N4 km d9 tab
end
section
theorem clear_ClsHB : True := by k_with_none; trivial
open PySem PySem.W PySem.W.X PyProof.Rows
set_option maxRecDepth 100000
set_option maxHeartbeats 8000000
set_option pp.deepTerms false
set_option pp.deepTerms.threshold 9
section
theorem wpAny_wide {α : Type} {M : Model} {A : Around} {E : Value → Shared → Prop} {s : Shared} {Q : α → Shared → Prop} {t : Sem α} (hh : A.handled = none) (hd : A.depth ≤ 400) (hu : A.units ≤ 500)
  (h : wpAny M { depth := 400, units := 500 } t Q E s) : wpAny M A t Q E s := fun Γ p hΓ =>
  h Γ p ⟨hΓ.1.trans hh, Nat.le_trans hΓ.2.1 hd, (by intro _ e; cases e), (by intro _ e; cases e), Nat.le_trans hΓ.2.2.2.2 hu⟩
theorem lyne_ClsHB_1 : True := by
  k_with "x_close!" => (exact hret _ _ _ _ _ (by assumption) (List.mem_cons_of_mem _ List.mem_cons_self) rfl (by kernel_rfl!))
  trivial
theorem k_new {prog : Program} {w : World} {h : Heap} {g : Array GenState} {d : Drawn} {t tk t4 t5 : Nat} {os : OsState} {Q : Value → Shared → Prop} {E : Value → Shared → Prop} {a ns bT sl fI fL fG fE fl fg sa mdA cI : Addr}
  {T : Nat → Tok} {k : Nat → Int} {md : Str} {n : Nat} {doc nm ctv v : Value} {ha hd : Int} {ta td : Tok}
  (e1 : h.get? a = some { cls := .type "type", data := .cls (kData a ns), slots := kSlots bT tk t4 })
  (e2 : h.get? ns = some { cls := .type "dict", data := .dict (nsF T k md sl fI fL fG fE fl fg sa mdA ha hd ta td).toArray n })
  (e3 : h.get? mdA = some { cls := .type "member_descriptor", data := .fields #[.str "obj" t5, .ref a, .builtin "proto.slot", .builtin "proto.slot#set", .int 0 0] })
  (e4 : h.get? fI = some { cls := .type "function", data := (kFn w.params 2 "__init__" "cmp_to_key.<locals>.K.__init__" [] doc nm cI ctv).data })
  {x0 : Value} {od : Option Addr} {rst : List Value} {osl : Array (Option Value)} {tq : Tok}
  (e5 : h.get? cI = some { cls := .type "code", dict := od, data := .fields ⟨x0 :: .str "cmp_to_key.<locals>.K.__init__" tq :: rst⟩, slots := osl })
  (g2 : h.get? (nat_lit 2) = some { cls := .none, data := .dict #[] })
  (hret : ∀ b o h' news t', Mem h h' [] news → (b, o) ∈ news → o.cls = .ref a → o.slots = #[some v] → Q (.ref b) ⟨h', g, d, t', os⟩) :
  wpAny (model prog w) { depth := 400, units := 500 } (call (.ref a) [v] []) Q E ⟨h, g, d, t, os⟩ := by
  x_run
end
end
section
theorem clear_Stab : True := by k_with_none; trivial
open PySem PySem.W PyProof.Rows
set_option maxHeartbeats 4000000
/-- the tree of questions, answered -/
noncomputable def kev {α : Type} (o : Nat → Nat → Bool) : KasT α → α
  | .ret a => a
  | .ask i j k => kev o (k (o i j))
theorem kev_bind {α β : Type} (o : Nat → Nat → Bool) (f : α → KasT β) : ∀ t : KasT α, kev o (t.bind f) = kev o (f (kev o t))
  | .ret _ => rfl
  | .ask _ _ k => kev_bind o f (k _)
section
variable (r : Nat → Int) (N : Nat)
noncomputable abbrev ans : Nat → Nat → Bool := fun i j => decide (r i < r j)
noncomputable abbrev gd (p : Array Nat) (i : Nat) : Nat := p.getD i 0
theorem gd_eq (p : Array Nat) (i : Nat) : gd p i = (p[i]?).getD 0 := Array.getD_eq_getD_getElem? ..
theorem gd_mirror {p : Array Nat} {i j : Nat} (hj : j ≤ p.size) (k : Nat) : gd (kas_rev p i j) k = if i ≤ k ∧ k < j then gd p (i + j - 1 - k) else gd p k := by
  rw [gd_eq, gd_eq, gd_eq]
  unfold kas_rev
  rw [getElem?_mirror_all hj k]
  by_cases h : i ≤ k ∧ k < j
  · rw [if_pos h, if_pos h]
  · rw [if_neg h, if_neg h]
theorem gd_bubble {p : Array Nat} {src d : Nat} (hs : src < p.size) (hd : d ≤ src) (k : Nat) : gd (bubble p src d) k = if k = src - d then gd p src else if src - d < k ∧ k ≤ src then gd p (k - 1) else gd p k := by
  rw [gd_eq, gd_eq, gd_eq, gd_eq]
  rw [getElem?_bubble hs d hd k]
  by_cases h : k = src - d
  · rw [if_pos h, if_pos h]
  · rw [if_neg h, if_neg h]
    by_cases h2 : src - d < k ∧ k ≤ src
    · rw [if_pos h2, if_pos h2]
    · rw [if_neg h2, if_neg h2]
theorem LL1 {x y : Int} {a b : Nat} (c : ¬ y < x) (l : a < b) : x < y ∨ (x = y ∧ a < b) := by
  rcases Int.lt_or_eq_of_le (Int.not_lt.mp c) with h | h
  · exact .inl h
  · exact .inr ⟨h, l⟩
theorem LL2 {x y z : Int} {a b m : Nat} (u : x < y ∨ (x = y ∧ a < m)) (c : ¬ z < y) (l : a < b) : x < z ∨ (x = z ∧ a < b) := by
  rcases u with h | ⟨rfl, _⟩
  · exact .inl (Int.lt_of_lt_of_le h (Int.not_lt.mp c))
  · exact LL1 c l
theorem LLe {x y : Int} {P : Prop} (u : x < y ∨ (x = y ∧ P)) (d : ¬ x < y) : y = x := by
  rcases u with h | h
  · exact absurd h d
  · exact h.1.symm
theorem LLe2 {x y z : Int} {P Q : Prop} (u : x < y ∨ (x = y ∧ P)) (v : y < z ∨ (y = z ∧ Q)) (d : ¬ x < z) : y = x := by
  refine LLe u fun h => d ?_
  rcases v with q | ⟨rfl, _⟩
  · exact Int.lt_trans h q
  · exact h
theorem mirA {i j n : Nat} (hij : i < j) (hj : j < n) : 0 + n - 1 - j < 0 + n - 1 - i := by
  rw [Nat.zero_add]; exact Nat.sub_lt_sub_left (Nat.lt_of_lt_of_le hij (Nat.le_sub_one_of_lt hj)) hij
theorem mirB {i n : Nat} (hi : i < n) : 0 + n - 1 - i < n := by
  rw [Nat.zero_add]; exact Nat.lt_of_le_of_lt (Nat.sub_le ..) (Nat.sub_lt (Nat.lt_of_le_of_lt (Nat.zero_le i) hi) (by decide))
noncomputable def LL (x y : Nat) : Prop := r x < r y ∨ (r x = r y ∧ x < y)
structure Pf (n : Nat) (p : Array Nat) : Prop where
  pm : p.Perm (List.toArray (List.range N))
  size : p.size = N
  rest : ∀ i, n ≤ i → i < N → gd p i = i
  low : ∀ i, i < n → gd p i < n
noncomputable def Up (n : Nat) (p : Array Nat) : Prop := ∀ i j, i < j → j < n → LL r (gd p i) (gd p j)
noncomputable def Dn (n : Nat) (p : Array Nat) : Prop := ∀ i j, i < j → j < n → LL r (gd p j) (gd p i)
structure Dq (n q : Nat) (p : Array Nat) : Prop where
  le : q + 1 ≤ n
  dn : ∀ i j, i < j → j < n - 1 - q → LL r (gd p j) (gd p i)
  st : ∀ i j, i < n - 1 - q → n - 1 - q ≤ j → j < n → r (gd p j) < r (gd p i)
  eq : ∀ i j, n - 1 - q ≤ i → i < j → j < n → r (gd p i) = r (gd p j) ∧ gd p i < gd p j
variable {r N}
theorem Pf.rev {n i j : Nat} {p : Array Nat} (h : Pf N n p) (hj : j ≤ n) (hn : n ≤ N) : Pf N n (kas_rev p i j) := by
  have hz : j ≤ p.size := by rw [h.size]; lia
  refine ⟨Array.Perm.trans (mirror_perm ..) h.pm, by rw [show kas_rev p i j = mirror p i j ((j - i) / 2) from rfl, mirror_size, h.size], fun k hk hN => ?_, fun k hk => ?_⟩
  · rw [gd_mirror hz, if_neg (by lia)]; exact h.rest k hk hN
  · rw [gd_mirror hz]
    split
    · exact h.low _ (by lia)
    · exact h.low _ hk
theorem asc_ok : ∀ (f n : Nat) (p : Array Nat), n + f = N → 1 ≤ n → Pf N n p → Up r n p →
    ∃ m, kev (ans r) (kas_asc p f n) = m ∧ n ≤ m ∧ m ≤ N ∧ Pf N m p ∧ Up r m p ∧ (m < N → r (gd p m) < r (gd p (m - 1)))
  | 0, n, p, e, h1, P, U => ⟨n, rfl, Nat.le_refl _, by lia, P, U, fun h => by lia⟩
  | f + 1, n, p, e, h1, P, U => by
    show ∃ m, kev (ans r) (if decide (r (gd p n) < r (gd p (n - 1))) = true then KasT.ret n else kas_asc p f (n + 1)) = m ∧ _
    by_cases c : r (gd p n) < r (gd p (n - 1))
    · rw [if_pos (decide_eq_true c)]
      exact ⟨n, rfl, Nat.le_refl _, by lia, P, U, fun _ => c⟩
    · rw [if_neg (by simpa using c)]
      have en := P.rest n (Nat.le_refl _) (by lia)
      have P' : Pf N (n + 1) p := ⟨P.pm, P.size, fun i hi hN => P.rest i (by lia) hN, fun i hi => by
        by_cases hin : i < n
        · have := P.low i hin; lia
        · have : i = n := by lia
          subst this; lia⟩
      have U' : Up r (n + 1) p := fun i j hij hj => by
        by_cases hjn : j < n
        · exact U i j hij hjn
        · have : j = n := by lia
          subst this
          have l := P.low i hij
          unfold LL
          by_cases hi : i = j - 1
          · subst hi; exact LL1 c (by rw [en]; exact l)
          · have u := U i (j - 1) (by lia) (by lia)
            exact LL2 u c (by rw [en]; exact l)
      obtain ⟨m, e1, e2, e3, e4, e5, e6⟩ := asc_ok f (n + 1) p (by lia) (by lia) P' U'
      exact ⟨m, e1, by lia, e3, e4, e5, e6⟩
theorem desc_ok : ∀ (f n q : Nat) (p : Array Nat), n + f = N → Pf N n p → Dq r n q p →
    ∃ p' n' q', kev (ans r) (kas_desc f p n q) = (p', n', q') ∧ n' ≤ N ∧ Pf N n' p' ∧ Dq r n' q' p'
  | 0, n, q, p, e, P, D => ⟨p, n, q, rfl, by lia, P, D⟩
  | f + 1, n, q, p, e, P, D => by
    show ∃ p' n' q', kev (ans r) (if decide (r (gd p n) < r (gd p (n - 1))) = true then (if q > 0 then kas_desc f (kas_rev p (n - (q + 1)) n) (n + 1) 0 else kas_desc f p (n + 1) 0)
      else .ask (gd p (n - 1)) (gd p n) fun d => if d = true then .ret (p, n, q) else kas_desc f p (n + 1) (q + 1)) = (p', n', q') ∧ _
    have hq := D.le
    have en := P.rest n (Nat.le_refl _) (by lia)
    have up : ∀ p₁ : Array Nat, Pf N n p₁ → Pf N (n + 1) p₁ := fun p₁ P₁ => ⟨P₁.pm, P₁.size, fun i hi hN => P₁.rest i (by lia) hN, fun i hi => by
        by_cases hin : i < n
        · have := P₁.low i hin; lia
        · have : i = n := by lia
          subst this
          have := P₁.rest i (Nat.le_refl _) (by lia); lia⟩
    by_cases c : r (gd p n) < r (gd p (n - 1))
    · rw [if_pos (decide_eq_true c)]
      have go : ∀ p₁ : Array Nat, Pf N n p₁ → Dn r n p₁ → (∀ i, i < n → r (gd p₁ n) < r (gd p₁ i)) → ∃ p' n' q', kev (ans r) (kas_desc f p₁ (n + 1) 0) = (p', n', q') ∧ n' ≤ N ∧ Pf N n' p' ∧ Dq r n' q' p' := fun p₁ P₁ D₁ lt =>
        desc_ok f (n + 1) 0 p₁ (by lia) (up p₁ P₁) ⟨by lia, fun i j hij hj => D₁ i j hij (by lia), fun i j hi hj hjn => by
          have : j = n := by lia
          subst this; exact lt i (by lia), fun i j hi hij hj => by lia⟩
      by_cases q0 : q > 0
      · rw [if_pos q0]
        have hz : n ≤ p.size := by rw [P.size]; lia
        have g (k : Nat) := gd_mirror (i := n - (q + 1)) (j := n) hz k
        refine go _ (P.rev (Nat.le_refl _) (by lia)) (fun i j hij hj => ?_) (fun i hi => ?_)
        · rw [g i, g j]
          by_cases hi : n - (q + 1) ≤ i
          · rw [if_pos (by lia), if_pos (by lia)]
            have := D.eq (n - (q + 1) + n - 1 - j) (n - (q + 1) + n - 1 - i) (by lia) (by lia) (by lia)
            exact .inr this
          · rw [if_neg (c := n - (q + 1) ≤ i ∧ i < n) (by lia)]
            by_cases hj2 : n - (q + 1) ≤ j
            · rw [if_pos (by lia)]
              exact .inl (D.st i _ (by lia) (by lia) (by lia))
            · rw [if_neg (by lia)]
              exact D.dn i j hij (by lia)
        · rw [g n, g i, if_neg (by lia)]
          by_cases hi : n - (q + 1) ≤ i
          · rw [if_pos (by lia)]
            by_cases hx : n - (q + 1) + n - 1 - i = n - 1
            · rw [hx]; exact c
            · have := (D.eq (n - (q + 1) + n - 1 - i) (n - 1) (by lia) (by lia) (by lia)).1
              lia
          · rw [if_neg (by lia)]
            have := D.st i (n - 1) (by lia) (by lia) (by lia)
            lia
      · rw [if_neg q0]
        have q1 : q = 0 := by lia
        subst q1
        refine go p P (fun i j hij hj => ?_) (fun i hi => ?_)
        · by_cases hj2 : j < n - 1 - 0
          · exact D.dn i j hij hj2
          · exact .inl (D.st i j (by lia) (by lia) hj)
        · by_cases hi2 : i = n - 1
          · subst hi2; exact c
          · have := D.st i (n - 1) (by lia) (by lia) (by lia)
            lia
    · rw [if_neg (by simpa using c)]
      show ∃ p' n' q', kev (ans r) (if decide (r (gd p (n - 1)) < r (gd p n)) = true then .ret (p, n, q) else kas_desc f p (n + 1) (q + 1)) = (p', n', q') ∧ _
      by_cases d : r (gd p (n - 1)) < r (gd p n)
      · rw [if_pos (decide_eq_true d)]
        exact ⟨p, n, q, rfl, by lia, P, D⟩
      · rw [if_neg (by simpa using d)]
        refine desc_ok f (n + 1) (q + 1) p (by lia) (up p P) ⟨by lia, fun i j hij hj => D.dn i j hij (by lia), fun i j hi hj hjn => ?_, fun i j hi hij hj => ?_⟩
        · by_cases hj2 : j = n
          · subst hj2
            have := D.st i (j - 1) (by lia) (by lia) (by lia)
            lia
          · exact D.st i j (by lia) (by lia) (by lia)
        · by_cases hj2 : j = n
          · subst hj2
            have l := P.low i hij
            by_cases hi2 : i = j - 1
            · subst hi2; exact ⟨by lia, by lia⟩
            · have := (D.eq i (j - 1) (by lia) (by lia) (by lia)).1
              exact ⟨by lia, by lia⟩
          · exact D.eq i j (by lia) hij (by lia)
theorem Dn.up {n : Nat} {p : Array Nat} (hn : n ≤ p.size) (D : Dn r n p) : Up r n (kas_rev p 0 n) := fun i j hij hj => by
  rw [gd_mirror hn, gd_mirror hn, if_pos ⟨Nat.zero_le _, Nat.lt_trans hij hj⟩, if_pos ⟨Nat.zero_le _, hj⟩]
  exact D _ _ (mirA hij hj) (mirB (Nat.lt_trans hij hj))
theorem tail_ok {n : Nat} {p : Array Nat} (h1 : 1 ≤ n) (hn : n ≤ N) (P : Pf N n p) (D : Dn r n p) :
    ∃ m p', kev (ans r) (kas_tail3 n N p) = (m, p') ∧ 1 ≤ m ∧ m ≤ N ∧ Pf N m p' ∧ Up r m p' := by
  unfold kas_tail3
  rw [kev_bind]
  obtain ⟨m, e1, e2, e3, e4, e5, _⟩ := asc_ok (r := r) (N := N) (N - n) n (kas_rev p 0 n) (by lia) h1 (P.rev (Nat.le_refl _) hn) (D.up (by rw [P.size]; exact hn))
  rw [e1]
  exact ⟨m, _, rfl, by lia, e3, e4, e5⟩
theorem descPart_ok {n : Nat} {p : Array Nat} (h1 : 1 ≤ n) (hn : n + 1 ≤ N) (P : Pf N n p) (D : Dn r n p) (hl : ∀ i, i < n → r (gd p n) < r (gd p i)) :
    ∃ m p', kev (ans r) (kas_descPart n N p) = (m, p') ∧ 1 ≤ m ∧ m ≤ N ∧ Pf N m p' ∧ Up r m p' := by
  unfold kas_descPart
  rw [kev_bind]
  have P' : Pf N (n + 1) p := ⟨P.pm, P.size, fun i hi hN => P.rest i (by lia) hN, fun i hi => by
    by_cases hin : i < n
    · have := P.low i hin; lia
    · have : i = n := by lia
      subst this
      have := P.rest i (Nat.le_refl _) (by lia); lia⟩
  have D' : Dq r (n + 1) 0 p := ⟨by lia, fun i j hij hj => D i j hij (by lia), fun i j hi hj hjn => by
    have : j = n := by lia
    subst this; exact hl i (by lia), fun i j hi hij hj => by lia⟩
  obtain ⟨p', n', q', e1, e2, e3, e4⟩ := desc_ok (N - (n + 1)) (n + 1) 0 p (by lia) P' D'
  rw [e1]
  have hz : n' ≤ p'.size := by rw [e3.size]; exact e2
  have hq := e4.le
  dsimp only
  by_cases q0 : q' > 0
  · rw [if_pos q0]
    refine tail_ok (by lia) e2 (e3.rev (Nat.le_refl _) e2) fun i j hij hj => ?_
    rw [gd_mirror hz, gd_mirror hz]
    by_cases hi : n' - (q' + 1) ≤ i
    · rw [if_pos (by lia), if_pos (by lia)]
      exact .inr (e4.eq _ _ (by lia) (by lia) (by lia))
    · rw [if_neg (c := n' - (q' + 1) ≤ i ∧ i < n') (by lia)]
      by_cases hj2 : n' - (q' + 1) ≤ j
      · rw [if_pos (by lia)]
        exact .inl (e4.st i _ (by lia) (by lia) (by lia))
      · rw [if_neg (by lia)]
        exact e4.dn i j hij (by lia)
  · rw [if_neg q0]
    have : q' = 0 := by lia
    subst this
    refine tail_ok (by lia) e2 e3 fun i j hij hj => ?_
    by_cases hj2 : j < n' - 1 - 0
    · exact e4.dn i j hij hj2
    · exact .inl (e4.st i j (by lia) (by lia) hj)
theorem count_ok {p : Array Nat} (h1 : 1 ≤ N) (P : Pf N 1 p) : ∃ m p', kev (ans r) (kas_count N p) = (m, p') ∧ 1 ≤ m ∧ m ≤ N ∧ Pf N m p' ∧ Up r m p' := by
  unfold kas_count
  rw [kev_bind]
  obtain ⟨m, e1, e2, e3, e4, e5, e6⟩ := asc_ok (r := r) (N := N) (N - 1) 1 p (by lia) (Nat.le_refl _) P (fun i j hij hj => by lia)
  rw [e1]
  by_cases c : m = N
  · rw [if_pos (by simpa using c)]
    exact ⟨m, p, rfl, e2, e3, e4, e5⟩
  · rw [if_neg (by simpa using c)]
    have lt := e6 (by lia)
    by_cases m1 : m > 1
    · rw [if_pos m1]
      show ∃ m' p', kev (ans r) (if decide (r (gd p 0) < r (gd p (m - 1))) = true then .ret (m, p) else kas_descPart m N (kas_rev p 0 m)) = (m', p') ∧ _
      by_cases d : r (gd p 0) < r (gd p (m - 1))
      · rw [if_pos (decide_eq_true d)]
        exact ⟨m, p, rfl, e2, e3, e4, e5⟩
      · rw [if_neg (by simpa using d)]
        have hz : m ≤ p.size := by rw [e4.size]; exact e3
        have alleq : ∀ i, i < m → r (gd p i) = r (gd p 0) := fun i hi => by
          by_cases i0 : i = 0
          · rw [i0]
          · have u1 := e5 0 i (by lia) hi
            by_cases im : i = m - 1
            · subst im; exact LLe u1 d
            · exact LLe2 u1 (e5 i (m - 1) (by lia) (by lia)) d
        refine descPart_ok (by lia) (by lia) (e4.rev (Nat.le_refl _) e3) (fun i j hij hj => ?_) (fun i hi => ?_)
        · rw [gd_mirror hz, gd_mirror hz, if_pos (by lia), if_pos (by lia)]
          exact e5 _ _ (by lia) (by lia)
        · rw [gd_mirror hz m, gd_mirror hz i, if_neg (c := 0 ≤ m ∧ m < m) (by lia), if_pos (c := 0 ≤ i ∧ i < m) (by lia)]
          rw [alleq (0 + m - 1 - i) (mirB hi)]
          have := alleq (m - 1) (by lia)
          lia
    · rw [if_neg m1]
      have : m = 1 := by lia
      subst this
      exact descPart_ok (by lia) (by lia) e4 (fun i j hij hj => by lia) (fun i hi => by
        have : i = 0 := by lia
        subst this; exact lt)
theorem place_ok {k : Nat} {p : Array Nat} (U : Up r k p) : ∀ (f l x : Nat), x - l ≤ f → l ≤ x → x ≤ k → (∀ i, i < l → r (gd p i) ≤ r (gd p k)) → (∀ i, x ≤ i → i < k → r (gd p k) < r (gd p i)) →
    ∃ l', kev (ans r) (kas_place p k f l x) = l' ∧ l' ≤ k ∧ (∀ i, i < l' → r (gd p i) ≤ r (gd p k)) ∧ (∀ i, l' ≤ i → i < k → r (gd p k) < r (gd p i))
  | 0, l, x, hf, hl, hx, h1, h2 => ⟨l, rfl, by lia, h1, fun i hi hk => h2 i (by lia) hk⟩
  | f + 1, l, x, hf, hl, hx, h1, h2 => by
    unfold kas_place
    by_cases c : l ≥ x
    · rw [if_pos c]
      exact ⟨l, rfl, by lia, h1, fun i hi hk => h2 i (by lia) hk⟩
    · rw [if_neg c]
      show ∃ l', kev (ans r) (if decide (r (gd p k) < r (gd p ((l + x) / 2))) = true then kas_place p k f l ((l + x) / 2) else kas_place p k f ((l + x) / 2 + 1) x) = l' ∧ _
      have hm1 : l ≤ (l + x) / 2 := by omega
      have hm2 : (l + x) / 2 < x := by omega
      clear c
      generalize (l + x) / 2 = mid at *
      by_cases d : r (gd p k) < r (gd p (mid))
      · rw [if_pos (decide_eq_true d)]
        refine place_ok U f l (mid) (by lia) (by lia) (by lia) h1 fun i hi hk => ?_
        by_cases e : i = mid
        · rw [e]; exact d
        · have u := U (mid) i (by lia) hk
          unfold LL at u; lia
      · rw [if_neg (by simpa using d)]
        refine place_ok U f (mid + 1) x (by lia) (by lia) hx (fun i hi => ?_) h2
        by_cases e : i = mid
        · rw [e]; lia
        · have u := U i (mid) (by lia) (by lia)
          unfold LL at u; lia
theorem bin_ok : ∀ (f k : Nat) (p : Array Nat), k + f = N → Pf N k p → Up r k p → ∃ p', kev (ans r) (kas_bin f p k) = p' ∧ Pf N N p' ∧ Up r N p'
  | 0, k, p, e, P, U => by
    have : k = N := by lia
    subst this
    exact ⟨p, rfl, P, U⟩
  | f + 1, k, p, e, P, U => by
    unfold kas_bin
    rw [kev_bind]
    obtain ⟨l, e1, e2, e3, e4⟩ := place_ok U k 0 k (by lia) (by lia) (Nat.le_refl _) (fun i hi => by lia) (fun i hi hk => by lia)
    rw [e1]
    have hs : k < p.size := by rw [P.size]; lia
    have g (i : Nat) := gd_bubble (d := k - l) hs (by lia) i
    have ek := P.rest k (Nat.le_refl _) (by lia)
    have kl : k - (k - l) = l := by lia
    refine bin_ok f (k + 1) (bubble p k (k - l)) (by lia) ⟨Array.Perm.trans (bubble_perm ..) P.pm, by rw [bubble_size, P.size], fun i hi hN => ?_, fun i hi => ?_⟩ fun i j hij hj => ?_
    · rw [g i, if_neg (by lia), if_neg (by lia)]
      exact P.rest i (by lia) hN
    · rw [g i, kl]
      by_cases a1 : i = l
      · rw [if_pos a1]; lia
      · rw [if_neg a1]
        by_cases a2 : l < i ∧ i ≤ k
        · rw [if_pos a2]; have := P.low (i - 1) (by lia); lia
        · rw [if_neg a2]; have := P.low i (by lia); lia
    · rw [g i, g j, kl]
      unfold LL
      by_cases il : i = l
      · rw [if_pos il, if_neg (by lia), if_pos (by lia)]
        exact .inl (e4 (j - 1) (by lia) (by lia))
      · rw [if_neg il]
        by_cases jl : j = l
        · rw [if_pos jl, if_neg (by lia)]
          have a := e3 i (by lia)
          have b := P.low i (by lia)
          lia
        · rw [if_neg jl]
          by_cases i2 : l < i ∧ i ≤ k
          · rw [if_pos i2, if_pos (by lia)]
            exact U (i - 1) (j - 1) (by lia) (by lia)
          · rw [if_neg i2]
            by_cases j2 : l < j ∧ j ≤ k
            · rw [if_pos j2]
              exact U i (j - 1) (by lia) (by lia)
            · rw [if_neg j2]
              exact U i j hij (by lia)
theorem sort_ok (h1 : 1 ≤ N) : ∃ p, kev (ans r) (kas_sort N) = p ∧ Pf N N p ∧ Up r N p := by
  unfold kas_sort
  rw [kev_bind]
  have g (i : Nat) (hi : i < N) : gd (List.toArray (List.range N)) i = i := by
    unfold gd
    rw [Array.getD_eq_getD_getElem?]
    simp [hi]
  obtain ⟨m, p, e1, e2, e3, e4, e5⟩ := count_ok (r := r) (N := N) (p := List.toArray (List.range N)) h1 ⟨Array.Perm.refl _, by simp, fun i _ hN => g i hN, fun i hi => by rw [g i (by lia)]; exact hi⟩
  rw [e1]
  dsimp only
  by_cases c : m < N
  · rw [if_pos c]
    have : max m 1 = m := by lia
    rw [this]
    exact bin_ok (N - m) m p (by lia) e4 e5
  · rw [if_neg c]
    have : m = N := by lia
    subst this
    exact ⟨p, rfl, e4, e5⟩
theorem gd_at {p : Array Nat} {i : Nat} (h : i < p.size) : gd p i = p[i] := by
  rw [gd_eq]; simp [h]
theorem sort_size (h1 : 1 ≤ N) : (kev (ans r) (kas_sort N)).size = N := by
  obtain ⟨p, e, P, U⟩ := sort_ok (r := r) h1
  rw [e]; exact P.size
end
end
section
theorem clear_Srt : True := by k_with_none; trivial
open PySem PySem.W PySem.Calls PyProof.Rows
set_option maxRecDepth 100000
set_option maxHeartbeats 4000000
/-- all questions of the tree lie below `N`, all ends in `R` -/
noncomputable def InQ {α : Type} (N : Nat) (R : α → Prop) : KasT α → Prop
  | .ret a => R a
  | .ask i j k => i < N ∧ j < N ∧ ∀ b, InQ N R (k b)
theorem InQ.bind {α β : Type} {N : Nat} {R : α → Prop} {R' : β → Prop} {f : α → KasT β} (hf : ∀ a, R a → InQ N R' (f a)) : ∀ {t : KasT α}, InQ N R t → InQ N R' (t.bind f)
  | .ret a, h => hf a h
  | .ask _ _ _, h => ⟨h.1, h.2.1, fun b => InQ.bind hf (h.2.2 b)⟩
theorem kas_eval {α : Type} {N : Nat} {R : α → Prop} {cmp : Nat → Nat → (Bool → Shared → Prop) → Shared → Prop} {I : Shared → Prop} {o : Nat → Nat → Bool} {Q : α → Shared → Prop}
    (hc : ∀ i j s, i < N → j < N → I s → ∀ C : Bool → Shared → Prop, (∀ s', I s' → C (o i j) s') → cmp i j C s) : ∀ (t : KasT α) (s : Shared), InQ N R t → I s → (∀ s', I s' → Q (kev o t) s') → t.kasWp cmp Q s
  | .ret _, s, _, hI, hq => hq s hI
  | .ask i j k, s, h, hI, hq => hc i j s h.1 h.2.1 hI _ fun s' hI' => kas_eval hc (k (o i j)) s' (h.2.2 _) hI' hq
section
variable {N : Nat}
noncomputable def Ok (N : Nat) (p : Array Nat) : Prop := ∀ i, gd p i < N
theorem ok_perm {p q : Array Nat} (h : 0 < N) (hp : q.Perm p) (k : Ok N p) : Ok N q := fun i => by
  rw [gd_eq]
  cases e : q[i]? with
  | none => exact h
  | some x =>
    have hx : x ∈ q := Array.mem_of_getElem? e
    have hx' : x ∈ p := hp.mem_iff.mp hx
    obtain ⟨j, hj⟩ := Array.mem_iff_getElem?.mp hx'
    have := k j
    rw [gd_eq, hj] at this
    exact this
theorem ok_rev {p : Array Nat} {i j : Nat} (h : 0 < N) (k : Ok N p) : Ok N (kas_rev p i j) := ok_perm h (mirror_perm ..) k
theorem in_asc {p : Array Nat} (h : 0 < N) (k : Ok N p) : ∀ f n, InQ N (fun _ => True) (kas_asc p f n)
  | 0, _ => trivial
  | f + 1, n => ⟨k _, k _, fun b => by
      cases b
      · exact in_asc h k f (n + 1)
      · exact trivial⟩
theorem in_desc (h : 0 < N) : ∀ f p n q, Ok N p → InQ N (fun r => Ok N r.1) (kas_desc f p n q)
  | 0, p, _, _, k => k
  | f + 1, p, n, q, k => ⟨k _, k _, fun b => by
      cases b
      · refine ⟨k _, k _, fun b => ?_⟩
        cases b
        · exact in_desc h f _ _ _ k
        · exact k
      · show InQ N _ (if q > 0 then kas_desc f (kas_rev p (n - (q + 1)) n) (n + 1) 0 else kas_desc f p (n + 1) 0)
        by_cases d : q > 0
        · rw [if_pos d]; exact in_desc h f _ _ _ (ok_rev h k)
        · rw [if_neg d]; exact in_desc h f _ _ _ k⟩
theorem in_tail {p : Array Nat} {n m : Nat} (h : 0 < N) (k : Ok N p) : InQ N (fun r => Ok N r.2) (kas_tail3 n m p) := by
  unfold kas_tail3
  exact InQ.bind (R := fun _ => True) (fun a _ => show InQ N (fun r : Nat × Array Nat => Ok N r.2) (.ret (a, kas_rev p 0 n)) from ok_rev h k) (in_asc h (ok_rev h k) _ _)
theorem in_descPart {p : Array Nat} {n m : Nat} (h : 0 < N) (k : Ok N p) : InQ N (fun r => Ok N r.2) (kas_descPart n m p) :=
  InQ.bind (fun r kr => by
    by_cases c : r.2.2 > 0
    · rw [if_pos c]; exact in_tail h (ok_rev h kr)
    · rw [if_neg c]; exact in_tail h kr) (in_desc h _ _ _ _ k)
theorem in_count {p : Array Nat} {m : Nat} (h : 0 < N) (k : Ok N p) : InQ N (fun r => Ok N r.2) (kas_count m p) :=
  InQ.bind (fun n _ => by
    by_cases c : (n == m) = true
    · rw [if_pos c]; exact k
    · rw [if_neg c]
      by_cases d : n > 1
      · rw [if_pos d]
        refine ⟨k _, k _, fun b => ?_⟩
        cases b
        · exact in_descPart h (ok_rev h k)
        · exact k
      · rw [if_neg d]; exact in_descPart h k) (in_asc h k _ _)
theorem in_place {p : Array Nat} {x : Nat} (k : Ok N p) : ∀ f l r, InQ N (fun _ => True) (kas_place p x f l r)
  | 0, _, _ => trivial
  | f + 1, l, r => by
      unfold kas_place
      by_cases c : l ≥ r
      · rw [if_pos c]; exact trivial
      · rw [if_neg c]
        refine ⟨k _, k _, fun b => ?_⟩
        cases b
        · exact in_place k f _ _
        · exact in_place k f _ _
theorem in_bin (h : 0 < N) : ∀ f p k, Ok N p → InQ N (fun _ => True) (kas_bin f p k)
  | 0, _, _, _ => trivial
  | f + 1, p, x, k => InQ.bind (fun l _ => in_bin h f _ _ (ok_perm h (bubble_perm ..) k)) (in_place k _ _ _)
theorem in_sort (h : 0 < N) : InQ N (fun _ => True) (kas_sort N) := by
  refine InQ.bind (R := fun r => Ok N r.2) (fun r kr => ?_) (in_count h fun i => ?_)
  · by_cases c : r.1 < N
    · rw [if_pos c]; exact in_bin h _ _ _ kr
    · rw [if_neg c]; exact trivial
  · rw [gd_eq]
    by_cases hi : i < N
    · simp [hi]
    · simp [hi, h]
end
/-- a key: an object of `C` that holds `v` -/
noncomputable def KI (C : Addr) (v : Value) (o : Obj) : Prop := o.cls = .ref C ∧ o.slots = #[some v]
section
variable {prog : Program} {w : World} {A : Around} {E : Value → Shared → Prop} {s : Shared} {h₀ : Heap} {L : Addr} {m : Str → Option Value} {news : List (Addr × Obj)} {a kS C : Addr} {vs : List Value} {e e1 : Nat} {P : PySem.Fin → Shared → Prop} {r : Nat → Int} {f : Value}
noncomputable abbrev TurnK (prog : Program) (w : World) (A : Around) (h₀ : Heap) (L : Addr) (m : Str → Option Value) (news : List (Addr × Obj)) (C : Addr) (f : Value) (vs : List Value) (s : Shared) : Prop :=
  ∀ v ∈ vs, ∀ (h : Heap) (tk : Nat) (own : List (Addr × Obj)), Fr h₀ L h m → News h₀ L h (news ++ own) →
    wpAny (model prog w) A (call f [v]) (fun x s2 => ∃ k o h' tk', x = .ref k ∧ s2 = { s with heap := h', toks := tk' } ∧ Fr h₀ L h' m ∧ News h₀ L h' ((k, o) :: (news ++ own)) ∧ KI C v o) (fun _ _ => False) { s with heap := h, toks := tk }
noncomputable abbrev CmpK (prog : Program) (w : World) (A : Around) (h₀ : Heap) (L : Addr) (m : Str → Option Value) (news : List (Addr × Obj)) (C : Addr) (vs : List Value) (r : Nat → Int) (s : Shared) : Prop :=
  ∀ i j ki oi kj oj (h : Heap) (tk : Nat) (own : List (Addr × Obj)), (hi : i < vs.length) → (hj : j < vs.length) → Fr h₀ L h m → News h₀ L h (news ++ own) → (ki, oi) ∈ own → (kj, oj) ∈ own → KI C vs[i] oi → KI C vs[j] oj →
    wpAny (model prog w) A (keyLt' oneType' (.ref ki) (.ref kj)) (fun b s2 => b = decide (r i < r j) ∧ ∃ h' tk', s2 = { s with heap := h', toks := tk' } ∧ Fr h₀ L h' m ∧ News h₀ L h' (news ++ own)) (fun _ _ => False) { s with heap := h, toks := tk }
theorem srt_tail {st : SortSt} {keys : Array Value} {out : List Value} (F : Fr h₀ L s.heap m) (N : News h₀ L s.heap (news ++ [(kS, seqObj "list" keys e), (a, seqObj "list" #[] e1)])) (hka : kS ≠ a) (hnk : ∀ p ∈ news, p.1 ≠ kS) (hna : ∀ p ∈ news, p.1 ≠ a)
    (h64 : keys.size < 64) (ho : (arrOf st).map (·.2) = out.toArray) (h65 : out.length < 64) (hfl : failedOf st = none)
    (h : ∀ h' tk c, Fr h₀ L h' m → News h₀ L h' ((a, seqObj "list" out.toArray c) :: news) → P (.done (.ret .none)) { s with heap := h', toks := tk }) :
    wpAny (model prog w) A (ksk_tail a false e1 (.ref kS) st) P E s := by
  have nk := N (kS, seqObj "list" keys e) (List.mem_append_right _ (.head _))
  have na := N (a, seqObj "list" #[] e1) (List.mem_append_right _ (.tail _ (.head _)))
  have Nn : News h₀ L s.heap news := fun p hp => N p (List.mem_append_left _ hp)
  have s1 := Heap.SameBut.update s.heap kS (Obj.mapSeq fun _ => (#[] : Array Value))
  have na1 : (s.heap.update kS (Obj.mapSeq fun _ => (#[] : Array Value))).get? a = some (seqObj "list" #[] e1) := (s1.2 a hka.symm).trans na.1
  have s2 := Heap.SameBut.update (s.heap.update kS (Obj.mapSeq fun _ => (#[] : Array Value))) a (Obj.mapSeq fun _ => out.toArray)
  obtain ⟨c2, hc2⟩ : ∃ c2, ((s.heap.update kS (Obj.mapSeq fun _ => (#[] : Array Value))).update a (Obj.mapSeq fun _ => out.toArray)).get? a = some (seqObj "list" out.toArray c2) :=
    ⟨_, get?_update_seq na1 fun _ => out.toArray⟩
  have N2 := ksk_news (ksk_news Nn s1 hnk) s2 hna
  unfold ksk_tail
  rw [ho]
  simp only [Bool.false_eq_true, if_false]
  refine wpAny_bind (listUpdate_at nk.1 rfl ?_ (by rw [sizeLine_eq]; omega) (Nat.zero_le _))
  refine wpAny_bind (wpAny_letGo ?_)
  refine wpAny_bind (seqEpoch_at na1 rfl ?_)
  refine wpAny_bind (listUpdate_at na1 rfl ?_ (Nat.zero_le _) (by rw [List.size_toArray, sizeLine_eq]; omega))
  rw [hfl]
  simp only [bne_self_eq_false, Bool.false_eq_true, if_false]
  refine wpAny_pure (h _ _ c2 (ksk_fr (ksk_fr F s1 nk.2.1 nk.2.2) s2 na.2.1 na.2.2) (fun p hp => ?_))
  rcases List.mem_cons.mp hp with rfl | hp
  · exact ⟨hc2, na.2⟩
  · exact N2 p hp
theorem srt_end {ko : List (Addr × Obj)} (F : Fr h₀ L s.heap m) (N : News h₀ L s.heap (news ++ (ko ++ [(kS, seqObj "list" (ko.map fun p => Value.ref p.1).toArray e), (a, seqObj "list" #[] e1)]))) (hka : kS ≠ a) (hnk : ∀ p ∈ news, p.1 ≠ kS) (hna : ∀ p ∈ news, p.1 ≠ a)
    (hko : ko.length = vs.length) (hki : ∀ i (hi : i < ko.length) (hv : i < vs.length), KI C vs[i] ko[i].2) (h2 : 2 ≤ vs.length) (h64 : vs.length < 64) (cmp : CmpK prog w A h₀ L m news C vs r s)
    (h : ∀ h' tk c, Fr h₀ L h' m → News h₀ L h' ((a, seqObj "list" (((kev (ans r) (kas_sort vs.length)).toList.map fun i => vs.getD i .none).toArray) c) :: news) → P (.done (.ret .none)) { s with heap := h', toks := tk }) :
    wpAny (model prog w) A (ksk_end a false vs.toArray e1 (.ref kS) (ko.map fun p => Value.ref p.1).toArray) P E s := by
  have hzs : ((ko.map fun p => Value.ref p.1).toArray.zip vs.toArray).size = vs.length := by rw [Array.size_zip, List.size_toArray, List.size_toArray, List.length_map, hko, Nat.min_self]
  have item : ∀ i (hi : i < vs.length), kas_item ((ko.map fun p => Value.ref p.1).toArray.zip vs.toArray) i = (Value.ref (ko[i]'(by omega)).1, vs[i]) := fun i hi => by
    unfold kas_item
    rw [Array.getD_eq_getD_getElem?]
    have hk : i < ko.length := by omega
    simp [List.zip_eq_zipWith, List.getElem?_zipWith, hi, hk]
  unfold ksk_end
  simp only [Bool.false_eq_true, if_false]
  have hn2 : ¬ vs.toArray.size < 2 := by rw [List.size_toArray]; omega
  rw [if_neg hn2, if_neg hn2]
  refine wpAny_bind (kas_kind (T := .ref C) (by rw [List.length_map, hko]; exact h2) (fun v hv => ?_) rfl (by simp) ?_)
  · obtain ⟨p, hp, rfl⟩ := List.mem_map.mp hv
    obtain ⟨i, hi, rfl⟩ := List.mem_iff_getElem.mp hp
    have g := (N ko[i] (List.mem_append_right _ (List.mem_append_left _ hp))).1
    have k := (hki i hi (by omega)).1
    rw [← k]
    exact (Looks.ld g).andThen .now
  have est : SortSt.mk' oneType' ((ko.map fun p => Value.ref p.1).toArray.zip vs.toArray) #[] 7 none = kas_st oneType' ((ko.map fun p => Value.ref p.1).toArray.zip vs.toArray) (List.toArray (List.range vs.length)) := by
    have e := kas_range ((ko.map fun p => Value.ref p.1).toArray.zip vs.toArray)
    rw [hzs] at e
    show _ = SortSt.mk' oneType' ((List.toArray (List.range vs.length)).map (kas_item _)) #[] 7 none
    rw [e]
  rw [est]
  have run := kas_runs (prog := prog) (w := w) (A := A) (E := E) (κ := oneType') (it := (ko.map fun p => Value.ref p.1).toArray.zip vs.toArray) (n := vs.length) (s := s)
    (Q := fun _ st' s' => ∃ (hs : arrOf st' = (kev (ans r) (kas_sort vs.length)).map (kas_item ((ko.map fun p => Value.ref p.1).toArray.zip vs.toArray))), failedOf st' = none ∧ ∃ h' tk', s' = { s with heap := h', toks := tk' } ∧ Fr h₀ L h' m ∧ News h₀ L h' (news ++ (ko ++ [(kS, seqObj "list" (ko.map fun p => Value.ref p.1).toArray e), (a, seqObj "list" #[] e1)])))
    (G := fun p' s' => p' = kev (ans r) (kas_sort vs.length) ∧ ∃ h' tk', s' = { s with heap := h', toks := tk' } ∧ Fr h₀ L h' m ∧ News h₀ L h' (news ++ (ko ++ [(kS, seqObj "list" (ko.map fun p => Value.ref p.1).toArray e), (a, seqObj "list" #[] e1)])))
    h2 h64 (fun p' st' s' _ a2 a3 a4 => ⟨by rw [a2, a4.1], a3, a4.2⟩)
    (kas_eval (N := vs.length) (R := fun _ => True) (I := fun s' => ∃ h' tk', s' = { s with heap := h', toks := tk' } ∧ Fr h₀ L h' m ∧ News h₀ L h' (news ++ (ko ++ [(kS, seqObj "list" (ko.map fun p => Value.ref p.1).toArray e), (a, seqObj "list" #[] e1)]))) (o := ans r)
      (fun i j s' hi hj hI C' hC => ?cmp) (kas_sort vs.length) s (in_sort (by omega)) ⟨_, _, rfl, F, N⟩ fun s' hI => ⟨rfl, hI⟩)
  case cmp =>
    obtain ⟨h', tk', rfl, F', N'⟩ := hI
    unfold kas_cmp
    rw [item i hi, item j hj]
    refine wpAny_mono (cmp i j _ (ko[i]'(by omega)).2 _ (ko[j]'(by omega)).2 h' tk' _ hi hj F' N' (List.mem_append_left _ (List.getElem_mem _)) (List.mem_append_left _ (List.getElem_mem _)) (hki i (by omega) hi) (hki j (by omega) hj)) (fun b s2 hb => ?_) fun _ _ x => x
    obtain ⟨rfl, h3, tk3, rfl, F3, N3⟩ := hb
    exact hC _ ⟨_, _, rfl, F3, N3⟩
  refine wpAny_bind (wpAny_mono run ?_ fun _ _ x => x)
  rintro ⟨⟨⟩, st'⟩ s' ⟨hs, hf, h', tk', rfl, F', N'⟩
  dsimp only
  have hpz := sort_size (r := r) (N := vs.length) (by omega)
  have hout : (arrOf st').map (·.2) = (((kev (ans r) (kas_sort vs.length)).toList.map fun i => vs.getD i .none)).toArray := by
    apply Array.toList_inj.mp
    rw [hs, Array.map_map, Array.toList_map]
    obtain ⟨p, e, P, U⟩ := sort_ok (r := r) (N := vs.length) (by omega)
    refine List.map_congr_left fun i hi => ?_
    have hi' : i < vs.length := by
      have hm : i ∈ List.range vs.length := by
        have := P.pm
        rw [← e, Array.perm_iff_toList_perm] at this
        exact (this.mem_iff.mp hi)
      exact List.mem_range.mp hm
    show (kas_item _ i).2 = _
    rw [item i hi']
    simp [hi']
  refine srt_tail (s := { s with heap := h', toks := tk' }) (e := e) (news := news) (keys := (ko.map fun p => Value.ref p.1).toArray) (out := ((kev (ans r) (kas_sort vs.length)).toList.map fun i => vs.getD i .none)) F' (fun p hp => ?_) hka hnk hna (by rw [List.size_toArray, List.length_map, hko]; exact h64) hout (by rw [List.length_map, Array.length_toList, hpz]; exact h64) hf (fun h3 tk3 c F3 N3 => h h3 tk3 c F3 N3)
  rcases List.mem_append.mp hp with hp | hp
  · exact N' p (List.mem_append_left _ hp)
  · exact N' p (List.mem_append_right _ (List.mem_append_right _ hp))
theorem srt_rest (F : Fr h₀ L s.heap m) (N : News h₀ L s.heap (news ++ [(kS, seqObj "list" #[] 0), (a, seqObj "list" #[] e1)])) (hka : kS ≠ a) (hnk : ∀ p ∈ news, p.1 ≠ kS) (hna : ∀ p ∈ news, p.1 ≠ a)
    (h2 : 2 ≤ vs.length) (h64 : vs.length < 64) (turn : TurnK prog w A h₀ L m news C f vs s) (cmp : CmpK prog w A h₀ L m news C vs r s)
    (h : ∀ h' tk c, Fr h₀ L h' m → News h₀ L h' ((a, seqObj "list" (((kev (ans r) (kas_sort vs.length)).toList.map fun i => vs.getD i .none).toArray) c) :: news) → P (.done (.ret .none)) { s with heap := h', toks := tk }) :
    wpAny (model prog w) A (ksk_rest a f false vs.toArray e1 (.ref kS)) P E s := by
  unfold ksk_rest
  refine wpAny_bind (wpAny_rule ?_)
  rw [List.forIn_toArray]
  refine wpAny_bind (ksk_fold (fun i s' => ∃ h' tk e ko, s' = { s with heap := h', toks := tk } ∧ Fr h₀ L h' m ∧ News h₀ L h' (news ++ (ko ++ [(kS, seqObj "list" (ko.map fun p => Value.ref p.1).toArray e), (a, seqObj "list" #[] e1)])) ∧
      ko.length = i ∧ ∀ j (hj : j < ko.length) (hv : j < vs.length), KI C vs[j] ko[j].2) vs 0 s
    ⟨s.heap, s.toks, 0, [], rfl, F, (by simpa using N), rfl, fun j hj => absurd hj (Nat.not_lt_zero _)⟩ ?step ?done)
  case step =>
    rintro j x s' hx ⟨h', tk, e, ko, rfl, F', N', hl, hk⟩
    simp only [Nat.zero_add] at hl ⊢
    obtain ⟨hj, hxj⟩ := List.getElem?_eq_some_iff.mp hx
    refine wpAny_bind (wpAny_attempt (wpAny_mono (turn x (hxj ▸ List.getElem_mem hj) h' tk _ F' N') (fun v s'' he => ?_) fun _ _ hF => hF.elim))
    obtain ⟨k, o, g, tk2, rfl, rfl, F2, N2, ki⟩ := he
    dsimp only
    have nk := N2 (kS, seqObj "list" (ko.map fun p => Value.ref p.1).toArray e) (.tail _ (List.mem_append_right _ (List.mem_append_right _ (.head _))))
    have na := N2 (a, seqObj "list" #[] e1) (.tail _ (List.mem_append_right _ (List.mem_append_right _ (.tail _ (.head _)))))
    have s1 := Heap.SameBut.update g kS (Obj.mapSeq (·.push (.ref k)))
    obtain ⟨c2, hc2⟩ : ∃ c2, (g.update kS (Obj.mapSeq (·.push (.ref k)))).get? kS = some (seqObj "list" ((ko.map fun p => Value.ref p.1).toArray.push (.ref k)) c2) := ⟨_, get?_update_seq nk.1 (·.push (.ref k))⟩
    have ea : (ko.map fun p => Value.ref p.1).toArray.push (.ref k) = ((ko ++ [(k, o)]).map fun p => Value.ref p.1).toArray := by simp
    have kne : ∀ p ∈ (k, o) :: (news ++ ko), p.1 ≠ kS := fun p hp z => by
      have g1 : g.get? p.1 = some p.2 := by
        rcases List.mem_cons.mp hp with rfl | hp
        · exact (N2 _ (.head _)).1
        · rcases List.mem_append.mp hp with hp | hp
          · exact (N2 p (.tail _ (List.mem_append_left _ hp))).1
          · exact (N2 p (.tail _ (List.mem_append_right _ (List.mem_append_left _ hp)))).1
      rcases List.mem_cons.mp hp with rfl | hp
      · rw [z, nk.1] at g1
        have e2 : _ = o := Option.some.inj g1
        have kc := ki.1
        rw [← e2] at kc
        cases kc
      · rcases List.mem_append.mp hp with hp | hp
        · exact hnk p hp z
        · obtain ⟨i, hi, rfl⟩ := List.mem_iff_getElem.mp hp
          rw [z, nk.1] at g1
          have := Option.some.inj g1
          have kc := (hk i hi (by omega)).1
          rw [← this] at kc
          cases kc
    refine wpAny_bind (listUpdate_at nk.1 rfl ?_ (by rw [List.size_toArray, List.length_map, sizeLine_eq]; omega) (Nat.le_trans (Nat.le_of_eq (Array.size_push ..)) (by rw [List.size_toArray, List.length_map, sizeLine_eq]; omega)))
    rw [ea] at hc2
    refine wpAny_pure ⟨rfl, _, _, c2, ko ++ [(k, o)], rfl, ksk_fr F2 s1 nk.2.1 nk.2.2, fun p hp => ?_, by simp [hl], fun i hi hv => ?_⟩
    · have old : ∀ q, q ∈ (k, o) :: (news ++ ko) → (g.update kS (Obj.mapSeq (·.push (.ref k)))).get? q.1 = some q.2 ∧ q.1 ≠ L ∧ h₀.get? q.1 = none := fun q hq => by
        have hq' : q ∈ (k, o) :: (news ++ (ko ++ [(kS, seqObj "list" (ko.map fun p => Value.ref p.1).toArray e), (a, seqObj "list" #[] e1)])) := by
          rcases List.mem_cons.mp hq with rfl | hq
          · exact .head _
          · rcases List.mem_append.mp hq with hq | hq
            · exact .tail _ (List.mem_append_left _ hq)
            · exact .tail _ (List.mem_append_right _ (List.mem_append_left _ hq))
        exact ⟨(s1.2 q.1 (kne q hq)).trans (N2 q hq').1, (N2 q hq').2⟩
      rcases List.mem_append.mp hp with hp | hp
      · exact old p (.tail _ (List.mem_append_left _ hp))
      · rcases List.mem_append.mp hp with hp | hp
        · rcases List.mem_append.mp hp with hp | hp
          · exact old p (.tail _ (List.mem_append_right _ hp))
          · rw [List.mem_singleton.mp hp]; exact old _ (.head _)
        · rcases List.mem_cons.mp hp with rfl | hp
          · exact ⟨hc2, nk.2⟩
          · rw [List.mem_singleton.mp hp]
            exact ⟨(s1.2 a hka.symm).trans na.1, na.2⟩
    · by_cases hi2 : i < ko.length
      · rw [List.getElem_append_left hi2]
        exact hk i hi2 hv
      · have : i = ko.length := by simp at hi; omega
        subst this
        rw [List.getElem_concat_length rfl]
        subst hl
        rw [hxj]
        exact ki
  case done =>
    rintro s' ⟨h', tk, e, ko, rfl, F', N', hl, hk⟩
    have nk := N' (kS, seqObj "list" (ko.map fun p => Value.ref p.1).toArray e) (List.mem_append_right _ (List.mem_append_right _ (.head _)))
    refine wpAny_bind (listItems_at nk.1 rfl ?_)
    exact srt_end (s := { s with heap := h', toks := tk }) F' N' hka hnk hna (by lia) hk h2 h64 cmp fun h3 tk3 c F3 N3 => h h3 tk3 c F3 N3
theorem srt_sort {n : Nat} (F : Fr h₀ L s.heap m) (N : News h₀ L s.heap news) (ho : s.heap.get? a = some (seqObj "list" vs.toArray n)) (haL : a ≠ L) (ha0 : h₀.get? a = none) (hna : ∀ p ∈ news, p.1 ≠ a)
    (h2 : 2 ≤ vs.length) (h64 : vs.length < 64) (turn : TurnK prog w A h₀ L m news C f vs s) (cmp : CmpK prog w A h₀ L m news C vs r s)
    (h : ∀ h' tk c, Fr h₀ L h' m → News h₀ L h' ((a, seqObj "list" (((kev (ans r) (kas_sort vs.length)).toList.map fun i => vs.getD i .none).toArray) c) :: news) → P (.done (.ret .none)) { s with heap := h', toks := tk }) :
    wpAny (model prog w) A (ksk_tree a f false) P E s := by
  have ha : a < s.heap.objs.size := Heap.lt_size ho
  have s1 := Heap.SameBut.update s.heap a (Obj.mapSeq fun _ => (#[] : Array Value))
  obtain ⟨e1, ho1⟩ : ∃ e1, (s.heap.update a (Obj.mapSeq fun _ => (#[] : Array Value))).get? a = some (seqObj "list" #[] e1) := ⟨_, get?_update_seq ho fun _ => #[]⟩
  have F1 := ksk_fr F s1 haL ha0
  have N1 := ksk_news N s1 hna
  have hkS : ((s.heap.update a (Obj.mapSeq fun _ => (#[] : Array Value))).push (seqObj "tuple" vs.toArray 0)).objs.size = s.heap.objs.size + 1 := by rw [size_push', Heap.size_update]
  have hLk : L < ((s.heap.update a (Obj.mapSeq fun _ => (#[] : Array Value))).push (seqObj "tuple" vs.toArray 0)).objs.size := (F1.push _).ns.lt
  unfold ksk_tree
  refine wpAny_bind (listItems_at ho rfl ?_)
  refine wpAny_bind (listUpdate_at ho rfl ?_ (by rw [List.size_toArray, sizeLine_eq]; omega) (Nat.zero_le _))
  refine wpAny_bind (seqEpoch_at ho1 rfl ?_)
  refine wpAny_bind (wpAny_newTuple ?_ (by show vs.length ≤ _; rw [sizeLine_eq]; omega))
  refine wpAny_bind (wpAny_newList ?_ (Nat.zero_le _))
  refine wpAny_holding ?_
  refine srt_rest (s := { s with heap := ((s.heap.update a (Obj.mapSeq fun _ => (#[] : Array Value))).push (seqObj "tuple" vs.toArray 0)).push (seqObj "list" #[] 0) }) (kS := ((s.heap.update a (Obj.mapSeq fun _ => (#[] : Array Value))).push (seqObj "tuple" vs.toArray 0)).objs.size)
    ((F1.push _).push _) (fun p hp => ?_) (by rw [hkS]; exact Nat.ne_of_gt (Nat.lt_succ_of_lt ha)) (fun p hp => by rw [hkS]; exact Nat.ne_of_lt (Nat.lt_succ_of_lt (Heap.lt_size (N p hp).1))) hna h2 h64 turn cmp h
  rcases List.mem_append.mp hp with hp | hp
  · exact ⟨Heap.get?_push_of_some _ (Heap.get?_push_of_some _ (N1 p hp).1), (N1 p hp).2⟩
  · rcases List.mem_cons.mp hp with rfl | hp
    · exact ⟨Heap.get?_push_size _ rfl, Nat.ne_of_gt hLk, Heap.get?_none_of_le (Nat.le_trans F.above (Nat.le_of_lt hLk))⟩
    · rw [List.mem_singleton.mp hp]
      exact ⟨Heap.get?_push_of_some _ (Heap.get?_push_of_some _ ho1), haL, ha0⟩
end
section
variable {prog : Program} {w : World} {A : Around} {E : Value → Shared → Prop} {s : Shared} {h₀ : Heap} {L l q C : Addr} {m : Str → Option Value} {news : List (Addr × Obj)} {vs : List Value} {Q : Value → Shared → Prop} {r : Nat → Int}
end
end
section
theorem clear_Key1B : True := by k_with_none; trivial
open PySem PySem.W PySem.W.X PyProof.Rows
set_option maxRecDepth 100000
set_option maxHeartbeats 8000000
theorem two_of {vs : Array Value} {x : Value} (h : vs[1]? = some x) : ∃ x0 rst, vs = ⟨x0 :: x :: rst⟩ := by
  obtain ⟨l⟩ := vs
  match l, h with
  | [], h => simp at h
  | [_], h => simp at h
  | x0 :: x1 :: rst, h => simp at h; exact ⟨x0, rst, by rw [h]⟩
section
variable {prog : Program} {w : World} {A : Around} {s : Shared} {h₀ : Heap} {L : Addr} {m : Str → Option Value} {news : List (Addr × Obj)}
theorem turn_key (hh : A.handled = none) (hdp : A.depth ≤ 400) (hu : A.units ≤ 500) {K L1 : Addr} {ds : List (Addr × Obj)} {vs : List Value} (kM : KMade w.params L1 K ds) (sub : ∀ p ∈ ds, p ∈ news) (X : (hd.heap_1 w.params).In h₀) : TurnK prog w A h₀ L m news K (.ref K) vs s := by
  obtain ⟨ns, bT, mdA, sl, F0, F1, F2, F3, F4, F5, sa, c0, c1, T, k, md, ha, hd', ta, td, t5, tk, oc0, oc1, nm, ctv0, ctv1, mK, mns, mmd, mF0, mc0, ⟨cc0, vs0, tq0, cd0, cv0⟩, mF1, mc1, co1⟩ := kM
  obtain ⟨x0, rst, rfl⟩ := two_of cv0
  obtain ⟨ocls, odict, odata, oslots⟩ := oc0
  dsimp only at cc0 cd0
  subst cc0 cd0
  intro v hv h t own F N
  have g2 : h.get? 2 = some _ := F.keep _ _ (X 2 _ (by rfl))
  have get : ∀ p ∈ ds, h.get? p.1 = some p.2 := fun p hp => (N p (List.mem_append_left _ (sub p hp))).1
  refine wpAny_wide hh hdp hu (k_new (h := h) (get _ mK) (get _ mns) (get _ mmd) (get _ mF0) (get _ mc0) g2 ?_)
  intro b o h' news' t' M hm hc hs
  have keep : ∀ b o, h.get? b = some o → h'.get? b = some o := fun b o e => M.keep b o e (by simp [away])
  have nb := M.nw _ hm
  refine ⟨b, o, h', t', rfl, rfl, F.kept keep, fun p hp => ?_, hc, hs⟩
  rcases List.mem_cons.mp hp with rfl | hp
  · refine ⟨nb.1, fun e => ?_, ?_⟩
    · obtain ⟨oL, _, _, hL, _⟩ := F.ns
      have e : b = L := e
      have := nb.2
      rw [show (b, o).1 = L from e, hL] at this
      cases this
    · cases z : h₀.get? b with
      | none => rfl
      | some o' =>
        have := F.keep _ _ z
        rw [nb.2] at this
        cases this
  · exact (N.grown keep) p hp
end
end
section
theorem clear_Key2B : True := by k_with_none; trivial
open PySem PySem.W PySem.W.X PyProof.Rows PySem.Calls Builtin Builtin.ObjectAttr Builtin.Getset_descriptor
set_option maxRecDepth 100000
set_option maxHeartbeats 4000000
section
variable {prog : Program} {w : World} {A : Around} {E : Value → Shared → Prop} {s : Shared} {K : Frag} {x C p f : Addr} {ox : Obj} {name : Str} {b : Value}
theorem find_data {M : Model} {h : Heap} {a g : Value} (X : K.In h) (ha : findIn K (.ref C) name = some (some a)) (hg : specialIn K a "__get__" = some (some g)) (hd : takesIn K a = some true) :
    Looks M h (find (.ref x) (.ref C) name) (.bind g a) := by
  have L1 := looks_findIn (M := M) X ha
  have L2 : Looks M h (getOf (some a)) (some g) := looks_specialIn X hg
  have L3 := looks_takesIn (M := M) X hd
  refine L1.andThen (L2.andThen ?_)
  exact (show Looks M h (dataDescriptor? (some a) (some g)) (some (g, a)) from L3.andThen .now).andThen (Looks.tag .now)
theorem get_data {a g : Value} {expr : Bool} {Q : Value → Shared → Prop} (X : K.In s.heap) (hx : s.heap.get? x = some ox) (hc : ox.cls = .ref C) (hga : findIn K (.ref C) "__getattribute__" = some (some (.builtin "object.__getattribute__")))
    (ha : findIn K (.ref C) name = some (some a)) (hg : specialIn K a "__get__" = some (some g)) (hd : takesIn K a = some true) (hk : findIn K (.ref C) "__getattr__" = some none)
    (h : wpAny (model prog w) A.in1 (call g [a, .ref x, .ref C]) (fun v s' => wpAny (model prog w) A (handedOut v) Q E s') (fun e s' => wpAny (model prog w) A (noteIf true (.ref x) (.str name s.toks) e) (fun _ s'' => E e s'') E s') { s with toks := s.toks + 1 }) :
    wpAny (model prog w) A (getAttr (.ref x) name expr) Q E s := by
  obtain ⟨hh, gg, d, t, os⟩ := s
  have L0 : Looks (model prog w) hh (typeOf (.ref x)) (.ref C) := hc ▸ (Looks.ld hx).andThen .now
  have L1 := looks_findIn (M := model prog w) X hga
  unfold getAttr getAttrBy
  refine wpAny_bind (wpAny_mkText (wpAny_holding (wpAny_bind (L0.at (wpAny_bind (L1.at ?_))))))
  show wpAny _ _ (getAttrEveryday _ _ _) _ _ _
  have z : wpAny (model prog w) A.in1 (Builtin.«proto.getattr_hooked» ⟨[.ref x, .str name t], []⟩)
      (fun fin s' => match fin with | .done (.ret v) => wpAny (model prog w) A (handedOut v) Q E s' | _ => False) (fun e s' => wpAny (model prog w) A (noteIf true (.ref x) (.str name t) e) (fun _ s'' => E e s'') E s') ⟨hh, gg, d, t + 1, os⟩ := by
    have L1 := find_data (M := model prog w) (x := x) X ha hg hd
    have L2 := looks_findIn (M := model prog w) X hk
    refine wpAny_bind (wpAny_pure (wpAny_bind (L0.at (wpAny_bind (L1.at (wpAny_bind (L2.at ?_)))))))
    show wpAny _ _ (holding [a] (call g [a, .ref x, .ref C]) >>= ret) _ _ _
    exact wpAny_bind (wpAny_holding (wpAny_mono h (fun v s' z => wpAny_pure z) fun _ _ z => z))
  refine wpAny_bind (wpAny_onRaise (wpAny_runValue (codeAny_builtin F.plainObj_entry_getattr_hooked (wpAny_mono z (fun fin s' z => ?_) fun _ _ z => z))))
  rcases fin with (_ | _ | _ | _) | _ <;> first | exact z | exact z.elim
theorem bound_inst {args : List Value} {Q : Option Value → Shared → Prop} (X : K.In s.heap) (hx : s.heap.get? x = some ox) (hc : ox.cls = .ref C) (hs : findIn K (.ref C) name = some (some (.ref f))) (hf : isFn K (.ref f) = true)
    (h : wpAny (model prog w) A (call (.ref f) (.ref x :: args)) (fun v => Q (some v)) E s) : wpAny (model prog w) A (callSpecialIfBound? (.ref x) name args) Q E s := by
  have L0 : Looks (model prog w) s.heap (typeOf (.ref x)) (.ref C) := hc ▸ (Looks.ld hx).andThen .now
  simp only [callSpecialIfBound?, bindSpecialIfBound?]
  refine wpAny_holding (wpAny_bind (wpAny_bind (wpAny_bind (L0.here ((looks_findIn X hs).here ?_)))))
  refine wpAny_bind (wpAny_askSetting (wpAny_ite ?_))
  have fin : wpAny (model prog w) A (call (.ref f) ([.ref x] ++ args) >>= fun v => pure (some v)) Q E s := wpAny_bind (wpAny_mono h (fun v s' h' => wpAny_pure h') fun _ _ h' => h')
  split
  · exact wpAny_bind ((bind_fn X _ (beq_iff_eq.mp hf)).here (wpAny_pure (by exact fin)))
  · exact wpAny_tryCatch (wpAny_bind ((bind_fn X _ (beq_iff_eq.mp hf)).here (wpAny_pure (by exact fin))))
theorem lt_inst {Q : Bool → Shared → Prop} (hu : A.units < cLine) (X : K.In s.heap) (hx : s.heap.get? x = some ox) (hc : ox.cls = .ref C) (hs : findIn K (.ref C) "__lt__" = some (some (.ref f))) (hf : isFn K (.ref f) = true)
    (h : wpAny (model prog w) A (call (.ref f) [.ref x, b]) (PySem.W.BoolBack Q) E s) : wpAny (model prog w) A (keyLt' oneType' (.ref x) b) Q E s := by
  rw [keyLt'_oneType, oneLt'_eq]
  simp only [if_true]
  refine wpAny_bind (wpAny_cRoomFor hu ?_)
  refine wpAny_bind (bound_inst X hx hc hs hf (wpAny_mono h (fun v s' hv => ?_) fun _ _ e => e))
  cases v <;> first | exact hv.elim | skip
  exact wpAny_truthy_bool hv
theorem slot_read {tp v : Value} {i : Nat} {R : Result → Shared → Prop} (X : K.In s.heap) (hx : s.heap.get? x = some ox) (hcl : ox.cls = .ref C) (hp : slotIn K p C = some i) (hv : (ox.slots[i]?).join = some v)
    (h : R (.ok (.ret v)) s) : codeAny (model prog w) A (.call (.builtin "member_descriptor.__get__") ⟨[.ref p, .ref x, tp], []⟩) R s := by
  obtain ⟨n, tn, owner, behind, tb, d, sl, cd, ho, hc, hm, hb, rfl⟩ := slot_of X hp
  obtain ⟨hh, g, dr, t, os⟩ := s
  dsimp only at ho hx
  have L0 : Looks (model prog w) hh (typeOf (.ref x)) (.ref C) := hcl ▸ (Looks.ld hx).andThen .now
  have L1 := looks_mroIn (M := model prog w) X hm
  have L2 : Looks (model prog w) hh (Slots.slotNamesOf (.ref C)) cd.slotNames := (looks_clsIn X hc).andThen .now
  dsimp only at L0 L1
  have f0 := looks_field (M := model prog w) ho 0 (v := .str n tn) rfl
  have f1 := looks_field (M := model prog w) ho 1 (v := owner) rfl
  have f2 := looks_field (M := model prog w) ho 2 (v := .builtin "proto.slot") rfl
  have f4 := looks_field (M := model prog w) ho 4 (v := .int behind tb) rfl
  refine codeAny_call_builtin KF.slot_mem.plain KF.entry_mem (KF.slot_mem.check _ _ _ _ _ _ _ _ ⟨_, ho, rfl⟩ (KF.args_mem _ _ _) ?_)
  unfold Builtin.«member_descriptor.__get__» descrGet
  rw [dga_obj]
  refine wpAny_bind (wpAny_pure ?_)
  unfold descrGetter descrCheckInstance descrNameAndClass isInstance
  repeat lk
  refine ⟨Code.quiet_builtin _ (by decide +kernel), codeAny_builtin KF.entry_slot ?_⟩
  unfold Builtin.«proto.slot» Slots.target
  repeat lk
  rw [if_neg hb]
  repeat lk
  rw [hv]
  exact wpAny_pure h
end
end
section
theorem clear_Key3B : True := by k_with_none; trivial
open PySem PySem.W PySem.W.X PyProof.Rows
set_option maxRecDepth 100000
set_option maxHeartbeats 4000000
section
variable {K ns mdA F1 bT : Addr} {tk t4 t5 : Tok} {oN oF : Obj}
noncomputable abbrev kk (K ns mdA F1 bT : Addr) (tk t4 t5 : Tok) (oN oF : Obj) : Frag := [(K, kObj K ns bT tk t4), (ns, oN), (mdA, mdObj K t5), (F1, oF)]
theorem kk_1 : (kk K ns mdA F1 bT tk t4 t5 oN oF).lookup K = some (kObj K ns bT tk t4) := by simp [kk, List.lookup]
theorem kk_2 (h : ns ≠ K) : (kk K ns mdA F1 bT tk t4 t5 oN oF).lookup ns = some oN := by
  simp [kk, List.lookup, beq_eq_false_iff_ne.mpr h]
theorem kk_3 (h1 : mdA ≠ K) (h2 : mdA ≠ ns) : (kk K ns mdA F1 bT tk t4 t5 oN oF).lookup mdA = some (mdObj K t5) := by
  simp [kk, List.lookup, beq_eq_false_iff_ne.mpr h1, beq_eq_false_iff_ne.mpr h2]
theorem kk_4 (h1 : F1 ≠ K) (h2 : F1 ≠ ns) (h3 : F1 ≠ mdA) : (kk K ns mdA F1 bT tk t4 t5 oN oF).lookup F1 = some oF := by
  simp [kk, List.lookup, beq_eq_false_iff_ne.mpr h1, beq_eq_false_iff_ne.mpr h2, beq_eq_false_iff_ne.mpr h3]
theorem kk_in {h : Heap} (g1 : h.get? K = some (kObj K ns bT tk t4)) (g2 : h.get? ns = some oN) (g3 : h.get? mdA = some (mdObj K t5)) (g4 : h.get? F1 = some oF) : (kk K ns mdA F1 bT tk t4 t5 oN oF).In h := fun a o e => by
  simp only [kk, List.lookup] at e
  split at e
  · rename_i q; cases e; rw [beq_iff_eq.mp q]; exact g1
  · split at e
    · rename_i q; cases e; rw [beq_iff_eq.mp q]; exact g2
    · split at e
      · rename_i q; cases e; rw [beq_iff_eq.mp q]; exact g3
      · split at e
        · rename_i q; cases e; rw [beq_iff_eq.mp q]; exact g4
        · cases e
variable {T : Nat → Tok} {k : Nat → Int} {md : Str} {sl fI fL fG fE fl fg sa mdB : Addr} {ha hd' : Int} {ta td : Tok} {n : Nat}
theorem kk_ns {name : Str} {r : Option Value} (h : ns ≠ K) (hn : nsIn [(ns, oN)] ns name = some r) : nsIn (kk K ns mdA F1 bT tk t4 t5 oN oF) ns name = some r := by
  unfold nsIn at hn ⊢
  rw [kk_2 h]
  rw [show List.lookup ns [(ns, oN)] = some oN by simp [List.lookup]] at hn
  exact hn
theorem kk_own {name : Str} {v : Value} (h : ns ≠ K) (hn : nsIn [(ns, oN)] ns name = some (some v)) : findIn (kk K ns mdA F1 bT tk t4 t5 oN oF) (.ref K) name = some (some v) := by
  unfold findIn
  dsimp only
  rw [kk_1]
  show alongIn _ name [.ref K, .type "object"] = _
  unfold alongIn ownIn
  dsimp only
  rw [kk_1]
  show (match nsIn _ ns name with | some (some v) => some (some v) | some none => _ | none => none) = _
  rw [kk_ns h hn]
theorem kk_base {name : Str} {r : Option Value} (h : ns ≠ K) (hn : nsIn [(ns, oN)] ns name = some none) (hb : alongIn [] name [.type "object"] = some r) : findIn (kk K ns mdA F1 bT tk t4 t5 oN oF) (.ref K) name = some r := by
  unfold findIn
  dsimp only
  rw [kk_1]
  show alongIn _ name [.ref K, .type "object"] = _
  rw [alongIn]
  have : ownIn (kk K ns mdA F1 bT tk t4 t5 oN oF) name (.ref K) = some none := by
    unfold ownIn
    dsimp only
    rw [kk_1]
    exact kk_ns h hn
  rw [this]
  exact hb
variable {T : Nat → Tok} {k : Nat → Int} {md : Str} {sl fI fL fG fE fl fg sa mdB : Addr} {ha hd' : Int} {ta td : Tok} {n : Nat}
theorem d_lt : nsIn [(ns, dictOf (nsF T k md sl fI fL fG fE fl fg sa mdB ha hd' ta td) n)] ns "__lt__" = some (some (.ref fL)) := by
  unfold nsIn
  rw [show List.lookup ns [(ns, dictOf (nsF T k md sl fI fL fG fE fl fg sa mdB ha hd' ta td) n)] = some (dictOf (nsF T k md sl fI fL fG fE fl fg sa mdB ha hd' ta td) n) by simp [List.lookup]]
  kernel_rfl!
theorem d_obj : nsIn [(ns, dictOf (nsF T k md sl fI fL fG fE fl fg sa mdB ha hd' ta td) n)] ns "obj" = some (some (.ref mdB)) := by
  unfold nsIn
  rw [show List.lookup ns [(ns, dictOf (nsF T k md sl fI fL fG fE fl fg sa mdB ha hd' ta td) n)] = some (dictOf (nsF T k md sl fI fL fG fE fl fg sa mdB ha hd' ta td) n) by simp [List.lookup]]
  kernel_rfl!
theorem d_ga : nsIn [(ns, dictOf (nsF T k md sl fI fL fG fE fl fg sa mdB ha hd' ta td) n)] ns "__getattribute__" = some none := by
  unfold nsIn
  rw [show List.lookup ns [(ns, dictOf (nsF T k md sl fI fL fG fE fl fg sa mdB ha hd' ta td) n)] = some (dictOf (nsF T k md sl fI fL fG fE fl fg sa mdB ha hd' ta td) n) by simp [List.lookup]]
  kernel_rfl!
theorem d_gt : nsIn [(ns, dictOf (nsF T k md sl fI fL fG fE fl fg sa mdB ha hd' ta td) n)] ns "__getattr__" = some none := by
  unfold nsIn
  rw [show List.lookup ns [(ns, dictOf (nsF T k md sl fI fL fG fE fl fg sa mdB ha hd' ta td) n)] = some (dictOf (nsF T k md sl fI fL fG fE fl fg sa mdB ha hd' ta td) n) by simp [List.lookup]]
  kernel_rfl!
theorem b_ga : alongIn [] "__getattribute__" [.type "object"] = some (some (.builtin "object.__getattribute__")) := by kernel_rfl!
theorem b_gt : alongIn [] "__getattr__" [.type "object"] = some none := by kernel_rfl!
theorem kk_fn (h1 : F1 ≠ K) (h2 : F1 ≠ ns) (h3 : F1 ≠ mdA) (hc : oF.cls = .type "function") : isFn (kk K ns mdA F1 bT tk t4 t5 oN oF) (.ref F1) = true := by
  unfold isFn typeIn
  dsimp only
  rw [kk_4 h1 h2 h3]
  simp [hc]
theorem kk_get (h1 : mdA ≠ K) (h2 : mdA ≠ ns) : specialIn (kk K ns mdA F1 bT tk t4 t5 oN oF) (.ref mdA) "__get__" = some (some (.builtin "member_descriptor.__get__")) := by
  unfold specialIn typeIn
  dsimp only
  rw [kk_3 h1 h2]
  show fastLookup "member_descriptor" "__get__" = _
  kernel_rfl!
theorem kk_set (h1 : mdA ≠ K) (h2 : mdA ≠ ns) : takesIn (kk K ns mdA F1 bT tk t4 t5 oN oF) (.ref mdA) = some true := by
  have : specialIn (kk K ns mdA F1 bT tk t4 t5 oN oF) (.ref mdA) "__set__" = some (some (.builtin "member_descriptor.__set__")) := by
    unfold specialIn typeIn
    dsimp only
    rw [kk_3 h1 h2]
    show fastLookup "member_descriptor" "__set__" = _
    kernel_rfl!
  unfold takesIn
  rw [this]
theorem kk_slot (h1 : mdA ≠ K) (h2 : mdA ≠ ns) : slotIn (kk K ns mdA F1 bT tk t4 t5 oN oF) mdA K = some 0 := by
  have r : recIn (kk K ns mdA F1 bT tk t4 t5 oN oF) mdA "member_descriptor" = some [.str "obj" t5, .ref K, .builtin "proto.slot", .builtin "proto.slot#set", .int 0 0] := by
    unfold recIn
    rw [kk_3 h1 h2]
    rfl
  have c : clsIn (kk K ns mdA F1 bT tk t4 t5 oN oF) K = some (kData K ns) := by
    unfold clsIn
    rw [kk_1]
  unfold slotIn
  rw [r, c]
  simp [kData]
section
variable {prog : Program} {w : World} {A : Around} {E : Value → Shared → Prop} {s : Shared} {x : Addr} {ox : Obj} {v : Value}
/-- the attribute `obj` of a key -/
theorem key_obj {expr : Bool} {Q : Value → Shared → Prop} (g1 : s.heap.get? K = some (kObj K ns bT tk t4)) (g2 : s.heap.get? ns = some (dictOf (nsF T k md sl fI fL fG fE fl fg sa mdA ha hd' ta td) n)) (g3 : s.heap.get? mdA = some (mdObj K t5)) (g4 : s.heap.get? F1 = some oF)
    (h0 : ns ≠ K) (h1 : mdA ≠ K) (h2 : mdA ≠ ns) (hx : s.heap.get? x = some ox) (kI : KI K v ox) (hh : handedIn v = true) (h : Q v { s with toks := s.toks + 1 }) : wpAny (model prog w) A (getAttr (.ref x) "obj" expr) Q E s :=
  get_data (kk_in g1 g2 g3 g4) hx kI.1 (kk_base h0 d_ga b_ga) (kk_own h0 d_obj) (kk_get h1 h2) (kk_set h1 h2) (kk_base h0 d_gt b_gt)
    (wpAny_call (slot_read (s := { s with toks := s.toks + 1 }) (kk_in g1 g2 g3 g4) hx kI.1 (kk_slot h1 h2) (by rw [kI.2]; rfl) (handed_on hh h)))
end
end
end
section
theorem clear_Key4B : True := by k_with_none; trivial
open PySem PySem.Calls PySem.W PyProof.Rows PySem.Spec
set_option maxRecDepth 100000
set_option maxHeartbeats 8000000
theorem fill12 : True := by
  have h2 : (hd.heap_1 = hd.heap_1 ∧ PySem.Challenge.rw_mq0203_02 = PySem.Challenge.rw_mq0203_02) → True := fun _ => trivial
  apply h2
  k_fill
  exact ⟨rfl, rfl⟩
theorem asEq {α : Type} {a b : α} (h : a = b) : a = b := h
noncomputable def Stop2 (P : Prop) : Prop := P
theorem stop_mark2 {P : Prop} (h : Stop2 P) : P := h
theorem lyne_Key4B_1 : True := by
  k_with "k_dflt_done!" => first | with_reducible assumption | with_reducible exact List.mem_cons_self | (with_reducible refine List.mem_cons_of_mem _ ?_; k_dflt done)
  trivial
section
variable {prog : Program} {w : World} {A : Around} {E : Value → Shared → Prop} {s : Shared} {h₀ : Heap} {L : Addr} {news : List (Addr × Obj)}
variable {K ns mdA F1 bT : Addr} {tk t4 t5 : Tok} {oF : Obj} {T : Nat → Tok} {k : Nat → Int} {md : Str} {sl fI fL fG fE fl fg sa : Addr} {ha hd' : Int} {ta td : Tok} {n : Nat} {x : Addr} {ox : Obj} {v : Value}
theorem key_ne {h : Heap} (N : News h₀ L h news) (m1 : (K, kObj K ns bT tk t4) ∈ news) (m2 : (ns, dictOf (nsF T k md sl fI fL fG fE fl fg sa mdA ha hd' ta td) n) ∈ news) (m3 : (mdA, mdObj K t5) ∈ news) : ns ≠ K ∧ mdA ≠ K ∧ mdA ≠ ns := by
  refine ⟨fun e => ?_, fun e => ?_, fun e => ?_⟩
  · have a := (N _ m1).1
    have b := (N _ m2).1
    dsimp only at a b
    rw [e, a] at b
    exact absurd (Value.type.inj (congrArg Obj.cls (Option.some.inj b))) (by decide)
  · have a := (N _ m1).1
    have b := (N _ m3).1
    dsimp only at a b
    rw [e, a] at b
    exact absurd (Value.type.inj (congrArg Obj.cls (Option.some.inj b))) (by decide)
  · have a := (N _ m2).1
    have b := (N _ m3).1
    dsimp only at a b
    rw [e, a] at b
    exact absurd (Value.type.inj (congrArg Obj.cls (Option.some.inj b))) (by decide)
theorem cls_ne {h : Heap} {x y : Addr} {ox oy : Obj} {a b : String} (N : News h₀ L h news) (mx : (x, ox) ∈ news) (my : (y, oy) ∈ news) (hab : a ≠ b) (ha : ox.cls = .type a := by rfl) (hb : oy.cls = .type b := by rfl) : x ≠ y := fun e => by
  have p := (N _ mx).1
  have q := (N _ my).1
  dsimp only at p q
  rw [e, q] at p
  have r := congrArg Obj.cls (Option.some.inj p)
  rw [ha, hb] at r
  exact hab (Value.type.inj r).symm
theorem key_objN {expr : Bool} {Q : Value → Shared → Prop} (N : News h₀ L s.heap news) (m1 : (K, kObj K ns bT tk t4) ∈ news) (m2 : (ns, dictOf (nsF T k md sl fI fL fG fE fl fg sa mdA ha hd' ta td) n) ∈ news) (m3 : (mdA, mdObj K t5) ∈ news) (m4 : (F1, oF) ∈ news)
    (hx : (x, ox) ∈ news) (kI : KI K v ox) (hh : handedIn v = true) (h : Q v { s with toks := s.toks + 1 }) : wpAny (model prog w) A (getAttr (.ref x) "obj" expr) Q E s := by
  obtain ⟨h0, h1, h2⟩ := key_ne N m1 m2 m3
  exact key_obj (N _ m1).1 (N _ m2).1 (N _ m3).1 (N _ m4).1 h0 h1 h2 (N _ hx).1 kI hh h
end
theorem line_Key4B_1 : True := by
  k_with "eval Name!" => (k_here; (with_reducible show wpAny _ _ (eval (Expr.Name (Str.ofString "mycmp") _) _) _ _ _); k_dflt (refine' nameX_F ?N ?c ?m ?d ?_ ?a ?b; (case a => rfl); (case b => rfl); (case N => k_asm); (case c => rfl); (case m => k_mem); (case d => assumption); k_whole))
  trivial
theorem line_Key4B_2 : True := by
  k_with "callWith ref!" => (k_here; k_dflt (refine' callWith_F ?k1 ?_; (case k1 => exact hfn (by k_asm) (by k_asm) (by k_asm) (fun q hq => List.mem_cons_of_mem _ (List.mem_cons_of_mem _ (List.mem_cons_of_mem _ (sub2 q hq))))); k_whole))
  trivial
theorem line_Key4B_3 : True := by
  k_with "And!" => (refine ⟨hfn (by k_asm) (by k_asm) (by k_asm) (fun q hq => List.mem_cons_of_mem _ (List.mem_cons_of_mem _ (List.mem_cons_of_mem _ (sub2 q hq)))), ?_⟩; try dsimp only [List.nil_append, List.cons_append])
  trivial
theorem line_Key4B_4 : True := by
  k_with "getAttr!" => (k_here; k_dflt (refine' key_objN ?N ?m1 ?m2 ?m3 ?m4 ?hx ?kI ?hh ?_; (case N => k_asm); (case hx => k_dflt done); (case kI => assumption); (case m1 => k_dflt done); (case m2 => k_dflt done); (case m3 => k_dflt done); (case m4 => exact List.mem_cons_self); (case hh => rfl)))
  trivial
theorem line_Key4B_5 : True := by
  k_with "call ref!" => (refine stop_mark2 ?_)
  trivial
section
variable {w : World} {p : Program} {loose : List Str} {mean : ExcName → Option Value} {mg mb : Str → Option Value} {dp un : Nat} {gd : Option (List Code)} {cn : Str} {cs : Scope} {a : Addr} {ccd : Value} {cl : List (Str × Addr)} {outer : List Env} {A₀ : Around} {base h₀ : Heap} {L : Addr} {m : Str → Option Value} {news : List (Addr × Obj)} {s : Shared}
set_option pp.deepTerms false
set_option pp.deepTerms.threshold 5
end
end
section
theorem clear_Key5B : True := by k_with_none; trivial
open PySem PySem.Calls PySem.W PyProof.Rows PySem.Spec
set_option maxRecDepth 100000
set_option maxHeartbeats 8000000
section
variable {w : World} {p : Program} {loose : List Str} {mean : ExcName → Option Value} {mg mb : Str → Option Value} {dp un : Nat} {gd : Option (List Code)} {cn : Str} {cs : Scope} {a : Addr} {ccd : Value} {cl : List (Str × Addr)} {outer : List Env} {A₀ : Around} {base h₀ : Heap} {L : Addr} {m : Str → Option Value} {news : List (Addr × Obj)} {s : Shared} {Q E : Value → Shared → Prop}
end
end
section
theorem clear_Num1B : True := by k_with_none; trivial
open PySem PySem.Calls PySem.W PyProof.Rows PySem.Spec
set_option maxRecDepth 100000
set_option maxHeartbeats 8000000
theorem fill11 : True := by
  have h2 : (hd.heap_1 = hd.heap_1 ∧ PySem.Challenge.rw_mq0203_02 = PySem.Challenge.rw_mq0203_02) → True := fun _ => trivial
  apply h2
  k_fill
  exact ⟨rfl, rfl⟩
theorem ne_far {a b : Nat} {l : List (Addr × Obj)} (h : ∀ p ∈ l, p.1 < a) (hb : a ≤ b) : ∀ p ∈ l, p.1 ≠ b := fun p hp => Nat.ne_of_lt (Nat.lt_of_lt_of_le (h p hp) hb)
theorem lyne_Num1B_1 : True := by
  k_with "k_all!" => (refine ne_far (by with_reducible assumption) ?_; omega)
  trivial
theorem lyne_Num1B_2 : True := by
  k_with "k_all!" => (refine neAll ?_; (first | with_reducible assumption | exact allLt_of (by with_reducible assumption) | exact And.right (by with_reducible assumption) | exact And.right (And.right (by with_reducible assumption)) | exact And.right (And.right (And.right (by with_reducible assumption))) | exact And.right (And.right (And.right (And.right (by with_reducible assumption)))) | exact And.right (And.right (And.right (And.right (And.right (by with_reducible assumption))))) | exact And.right (And.right (And.right (And.right (And.right (And.right (by with_reducible assumption)))))) | exact And.right (And.right (And.right (And.right (And.right (And.right (And.right (by with_reducible assumption))))))) | exact And.right (And.right (And.right (And.right (And.right (And.right (And.right (And.right (by with_reducible assumption))))))))))
  trivial
noncomputable def JN (l : List (Addr × Obj)) (i : Nat) (ys : List Value) (news : List (Addr × Obj)) : Prop := news = l ∧ ys.length = i ∧ ∀ v ∈ ys, ∃ n t, v = Value.int n t
theorem jn_next {l : List (Addr × Obj)} {i : Nat} {ys : List Value} {n : Int} {t : Tok} (h : ys.length = i) (k : ∀ v ∈ ys, ∃ n t, v = Value.int n t) : JN l (i + 1) (ys ++ [.int n t]) l :=
  ⟨rfl, by rw [List.length_append, h]; rfl, fun v hv => by
    rcases List.mem_append.mp hv with hv | hv
    · exact k v hv
    · exact ⟨n, t, List.mem_singleton.mp hv⟩⟩
theorem off1_ne {D : Addr} : ∀ {l : List (Addr × Obj)}, LCg.Off1 D l → ∀ q ∈ l, @Ne Nat q.1 D
  | [], _, _, h => nomatch h
  | _ :: _, o, q, h => by
    rcases List.mem_cons.mp h with rfl | h
    · exact o.1
    · exact off1_ne o.2 q h
noncomputable def Stop (P : Prop) : Prop := P
theorem stop_mark {P : Prop} (h : Stop P) : P := h
theorem ints_of : ∀ {vs : List Value}, (∀ v ∈ vs, ∃ n t, v = .int n t) → ∃ ms, IntsAre vs ms
  | [], _ => ⟨[], .nil⟩
  | v :: r, h => by
    obtain ⟨n, t, rfl⟩ := h _ List.mem_cons_self
    obtain ⟨ms, hm⟩ := ints_of (vs := r) fun v hv => h v (List.mem_cons_of_mem _ hv)
    exact ⟨n :: ms, .cons n t hm⟩
theorem ints_mem : ∀ {vs : List Value} {ns : List Int}, IntsAre vs ns → ∀ v ∈ vs, ∃ n t, v = .int n t
  | _, _, .nil, _, hv => nomatch hv
  | _, _, .cons n t h, v, hv => by
    rcases List.mem_cons.mp hv with rfl | hv
    · exact ⟨n, t, rfl⟩
    · exact ints_mem h v hv
theorem pick_ints {vs : List Value} {ns : List Int} {lo hi st : Option Int} (h : IntsAre vs ns) : ∃ ms, IntsAre (slicePick vs.toArray lo hi st).toList ms := by
  refine ints_of fun v hv => ?_
  unfold slicePick at hv
  rw [List.toList_toArray] at hv
  obtain ⟨i, _, e⟩ := List.mem_filterMap.mp hv
  refine ints_mem h v ?_
  rw [List.getElem?_toArray] at e
  exact List.mem_of_getElem? e
section
variable {prog : Program} {w : World} {A : Around} {E : Value → Shared → Prop} {s : Shared} {h₀ : Heap} {L l : Addr} {m : Str → Option Value} {news : List (Addr × Obj)} {vs : List Value} {ns : List Int} {lo hi st : Option Int} {d : Data} {o : Obj}
theorem sum_pick {Q : Value → Shared → Prop} (hI : IntsAre vs ns) (F : Fr h₀ L s.heap m) (N : News h₀ L s.heap news) (hh : A.handled = none) (hm : (l, ({ cls := .type "list", data := .seq (slicePick vs.toArray lo hi st) } : Obj)) ∈ news)
    (h : ∀ h' tk n t', Fr h₀ L h' m → News h₀ L h' news → Q (.int n t') { s with heap := h', toks := tk }) : wpAny (model prog w) A (call (.builtin "sum") [.ref l]) Q E s := by
  obtain ⟨ms, hms⟩ := pick_ints (lo := lo) (hi := hi) (st := st) hI
  have hl : s.heap.IsList l (slicePick vs.toArray lo hi st).toList.toArray := by rw [Array.toArray_toList]; exact ⟨_, (N _ hm).1, rfl, _, rfl⟩
  exact PyProof.Rows.LSm.sum_ints F N hh hl hms fun h' tk t' F' N' => h h' tk _ t' F' N'
theorem comp_rest {env : Env} {elt : Expr} {x : Str} {scope : Scope} {cl : List (Str × Addr)} {S : List (Addr × Obj) → Prop} {P : Nat → Value → Prop} {Fin : List Value → List (Addr × Obj) → Prop} {n : Nat} (J : Nat → List Value → List (Addr × Obj) → Prop)
    (step : ∀ i ys news v I oI C oC D m₂ h tk (E' : Value → Shared → Prop), i < n → J i ys news → P i v → LCg.NsObj oC m₂ → m₂ x = some v → Fr h₀ L h m → News h₀ L h ((I, oI) :: (C, oC) :: (D, LCg.lst ys) :: news) → LCg.Off3 I C D news → ((@Ne Nat I C) ∧ (@Ne Nat I D) ∧ (@Ne Nat C D)) →
      wpAny (model prog w) A (eval elt (compEnvC scope cl C env)) (LCg.CompEnd h₀ L m { s with heap := h, toks := tk } I oI C oC D (LCg.lst ys) S (fun y news' => J (i + 1) (ys ++ [y]) news')) E' { s with heap := h, toks := tk })
    (fin : ∀ ys news, J n ys news → Fin ys news) :
    ∀ k i ys news, i + k = n → J i ys news → LCg.CompRest prog w A h₀ L m env elt x scope cl s S P Fin k i ys news
  | 0, i, ys, news, e, j => .zero (fin ys news (by rw [← e]; exact j))
  | k + 1, i, ys, news, e, j => .succ fun v I oI C oC D m₂ h tk E' hp hn hx F N o3 ne => wpAny_mono (step i ys news v I oI C oC D m₂ h tk E' (by omega) j hp hn hx F N o3 ne) (fun y s₂ p => by
      obtain ⟨h', tk', news', e1, F', N', o', hS, j'⟩ := p
      exact ⟨h', tk', news', e1, F', N', o', hS, comp_rest J step fin k (i + 1) (ys ++ [y]) news' (by omega) j'⟩) fun _ _ e => e
end
theorem line_Num1B_1 : True := by
  k_with "eval ListComp!" => (k_here; k_dflt (refine LCg.ListComp_U (F₀ := by k_asm) (by with_unfolding_all rfl) (by decide) (by rfl) (by decide) (by rfl) ?_))
  trivial
theorem line_Num1B_2 : True := by
  k_with "CompSrc!" => (refine stop_mark ?_)
  trivial
theorem line_Num1B_3 : True := by
  k_with "CompEnd!" => (refine stop_mark ?_)
  trivial
theorem line_Num1B_4 : True := by
  k_with "call builtin:sum!" => (k_here; k_dflt (refine' sum_pick ?I ?F ?N ?h ?m ?_; (case I => assumption); (case F => k_asm); (case N => k_asm); (case h => exact rfl); (case m => exact List.mem_cons_self)); intro _ _ _ _ _ _)
  trivial
theorem line_Num1B_5 : True := by
  k_with "LCg.CompSrc!" => (refine stop_mark ?_)
  trivial
set_option pp.deepTerms false
set_option pp.deepTerms false
set_option pp.deepTerms.threshold 5
theorem c_numbers {w : World} {p : Program} {loose : List Str} {mean : ExcName → Option Value} {mg mb : Str → Option Value} {dp un : Nat} {gd : Option (List Code)} {cn : Str} {cs : Scope} {a : Addr} {ccd : Value} {cl : List (Str × Addr)} {outer : List Env} {A₀ : Around} {base h₀ : Heap} {L : Addr} {m : Str → Option Value} {news : List (Addr × Obj)} {s : Shared} {Q E : Value → Shared → Prop}
    {l : Addr} {vs : List Value} {ns : List Int}
    (B : Below A₀ base outer h₀) (F : Fr h₀ L s.heap m) (X : (hd.heap_1 w.params).In h₀) (N : News h₀ L s.heap news) (T : Top p loose mean mg mb h₀) (hk : cs.kind = .function) (hdp : dp + 1 < recursionLimit) (hun : un + 8 < cLine)
    (hL : base.IsList l vs.toArray) (hI : IntsAre vs ns) (h63 : ns.length ≤ 63)
    (hret : ∀ (xs : List Int) (ws : List Value) n (D : Addr) (h' : Heap) (tk' : Nat), IntsAre ws xs → xs.length = 10 → Fr h₀ L h' m → News h₀ L h' ((D, listOf ws.toArray n) :: news) → (∀ q ∈ news, @Ne Nat q.1 D) → Q (.ref D) { s with heap := h', toks := tk' }) :
    wpAny (model PySem.Challenge.rw_mq0203_02.prog w) (ktrTop dp un gd cn cs L a ccd cl outer) (call (.ref 56) [.ref l]) Q E s := by
  refine wpAny_call ?_
  k_dflt (refine' code_defC ?k1 ?k2 ?k3 ?k4 ?k5 ?kA ?kF ?kK ?k6 ?k7 ?k8 ?k9 ?kB ?kD ?_ ?c2 ?c3 ?c4; (case kA => exact rfl); (case kF => exact rfl); (case kK => assumption); (case k1 => k_asm); (case k2 => k_asm); (case k3 => k_asm); (case k4 => k_asm); (case k5 => k_asm); (case k6 => k_is); (case k7 => k_is); (case k8 => ktr_room); (case k9 => exact BindsTo.of_eq rfl); (case kB => exact rfl); (case kD => decide +kernel); (case c2 => exact rfl); (case c3 => exact rfl); (case c4 => exact rfl); k_whole; intro g' L' h' tk' cells' FG' F' N' Y' B' X' T' l1; (try k_lt l1); k_cells Y'; (try simp only [List.cons_append, List.nil_append] at N'); (try dsimp only); (try k_lift B'); (try k_fold))
  k_steps
  refine LCg.CompSrc.range (n := 10) (by rfl) (by k_asm) (by k_asm) (by assumption) (by first | decide | rfl) (by first | rfl | decide) (by first | size_fits | exact Nat.le_of_ble_eq_true rfl) (fun g => ?_)
  refine comp_rest (n := 10) (JN _) ?step ?fin 10 0 [] _ rfl ⟨rfl, rfl, fun _ h => nomatch h⟩
  case step =>
    rintro i ys nw v I oI C oC D m₂ h tk E' hi ⟨rfl, hlen, hys⟩ ⟨t, rfl⟩ hC hx F8 N8 off8 ne8
    have hlo : (0 : Int) ≤ 0 + (i : Int) := by omega
    have hhi : (0 : Int) + (i : Int) < 10 := by omega
    generalize (0 : Int) + (i : Int) = k at hx hlo hhi
    k_steps
    rename_i h9 tk9 n9 t9 F9 N9
    exact LCg.CompEnd.intro F9 N9 _ (fun p hp => List.mem_cons_of_mem _ hp) off8 True.intro (jn_next hlen hys)
  case fin =>
    rintro ys nw ⟨rfl, hlen, hys⟩
    k_steps
    rename_i o1 kF kN Tc kX
    obtain ⟨xs, hxs⟩ := ints_of hys
    refine hret xs ys ys.length _ _ _ hxs (by rw [← hxs.length]; exact hlen) kF (News.perm kN ?_) (off1_ne o1.2.2.2)
    intro q hq
    rcases List.mem_cons.mp hq with rfl | hq
    · exact List.mem_cons_self
    · exact List.mem_cons_of_mem _ (List.mem_cons_of_mem _ (List.mem_cons_of_mem _ (List.mem_cons_of_mem _ hq)))
end
section
theorem clear_TopB : True := by k_with_none; trivial
open PySem PySem.Calls PySem.W PyProof.Rows PySem.Spec
set_option maxRecDepth 100000
set_option maxHeartbeats 8000000
theorem map_bound2 : ∀ {gs : List Int}, (∀ g ∈ gs, 0 ≤ g ∧ g ≤ 9) → -(512 * (gs.length : Int)) ≤ (mapB gs).2 ∧ (mapB gs).2 ≤ 512 * (gs.length : Int)
  | [], _ => by decide
  | g :: gs, h => by
    have r := map_bound2 (gs := gs) fun q hq => h q (List.mem_cons_of_mem _ hq)
    have b := map_bound (gs := gs)
    have h0 := h g List.mem_cons_self
    rw [List.length_cons, Int.natCast_succ]
    by_cases q : g = 9
    · rw [(map_p9 q).2]; omega
    · rw [(map_pg q).2]
      have a1 := Int.mul_le_mul_of_nonneg_left b.2 h0.1
      have a2 := Int.mul_le_mul_of_nonneg_left b.1 h0.1
      generalize g * (mapB gs).1 = y at *
      omega
section
variable {w : World} {p : Program} {loose : List Str} {mean : ExcName → Option Value} {mg mb : Str → Option Value} {dp un : Nat} {gd : Option (List Code)} {cn : Str} {cs : Scope} {a : Addr} {ccd : Value} {cl : List (Str × Addr)} {outer : List Env} {A₀ : Around} {base h₀ : Heap} {L : Addr} {m : Str → Option Value} {news : List (Addr × Obj)} {s : Shared} {Q E : Value → Shared → Prop}
theorem c_col {h sh l : Int} {tx ty tz : Tok}
    (B : Below A₀ base outer h₀) (F : Fr h₀ L s.heap m) (X : (hd.heap_1 w.params).In h₀) (N : News h₀ L s.heap news) (T : Top p loose mean mg mb h₀) (hk : cs.kind = .function) (px : @LT.lt Nat _ 0 tx) (py : @LT.lt Nat _ 0 ty) (pz : @LT.lt Nat _ 0 tz) (hdp : dp + 1 < recursionLimit) (hun : un + 8 < cLine)
    (h0 : 0 ≤ h) (h1 : h < 16) (s0 : 0 ≤ sh) (s1 : sh ≤ 8) (l0 : 0 ≤ l) (l1 : l ≤ 8)
    (hret : ∀ (c : Col) (h' : Heap) (tk' : Nat), c.x = fl (partP 0 h sh l) 9 → c.y = fl (partP 16 h sh l) 9 → c.z = fl (partP 32 h sh l) 9 → Fr h₀ L h' m → News h₀ L h' (c.o :: news) → (∀ q ∈ news, q.1 < c.a) → Q (.ref c.a) { s with heap := h', toks := tk' }) :
    wpAny (model PySem.Challenge.rw_mq0203_02.prog w) (ktrTop dp un gd cn cs L a ccd cl outer) (call (.ref 35) [.float (fl h 4) tx, .float (fl sh 3) ty, .float (fl l 3) tz]) Q E s := by
  have r := (rgb_st h0 (Int.lt_trans h1 (show (16 : Int) < 47 by decide)) (s := 512 * sh) (l := 512 * l) (by omega) (by omega) (by omega) (by omega)).2
  have f := first_st h0 (Int.lt_trans h1 (show (16 : Int) < 47 by decide)) s0 s1 l0 l1
  refine c_hsv2rgb B F X N T hk px py pz hdp hun (fun _ => r.1) (fun _ => r.2.1) (fun _ => r.2.2) fun r g b D t1 t2 t3 h' tk' e F' N' lt q1 q2 q3 => ?_
  rw [f] at e
  simp only [Prod.mk.injEq] at e
  obtain ⟨rfl, rfl, rfl⟩ := e
  exact hret ⟨D, _, _, _, t1, t2, t3, q1, q2, q3⟩ h' tk' rfl rfl rfl F' N' lt
end
noncomputable abbrev levelN (n : Int) : Int := Int.fmod (Int.fdiv n 144) 9
noncomputable abbrev shareN (n : Int) : Int := Int.fmod (Int.fdiv n 16) 9
/-- the weight of a colour -/
noncomputable def wgt (S n : Int) : Int := levelN n * (16 - shareN n) * (if S > 0 then 1 else -1)
noncomputable abbrev lgt (gs : List Int) (n : Int) : UInt64 := lightE (shareN n) (levelN n) gs
theorem five_self {m0 : Str → Option Value} {a b c d e : Str} : ∃ o1 o2 o3 o4 o5, m0 = fun y => if y = a then o1 else if y = b then o2 else if y = c then o3 else if y = d then o4 else if y = e then o5 else m0 y := by
  refine ⟨m0 a, m0 b, m0 c, m0 d, m0 e, funext fun y => ?_⟩
  repeat' split
  all_goals first | rfl | (subst_vars; rfl)
theorem five_again {m0 : Str → Option Value} {a b c d e : Str} {o1 o2 o3 o4 o5 p1 p2 p3 p4 p5 : Option Value} : (fun y => if y = a then p1 else if y = b then p2 else if y = c then p3 else if y = d then p4 else if y = e then p5 else if y = a then o1 else if y = b then o2 else if y = c then o3 else if y = d then o4 else if y = e then o5 else m0 y) = fun y => if y = a then p1 else if y = b then p2 else if y = c then p3 else if y = d then p4 else if y = e then p5 else m0 y := by
  funext y
  by_cases h1 : y = a
  · simp only [h1, if_true]
  by_cases h2 : y = b
  · simp only [if_neg h1, if_pos h2]
  by_cases h3 : y = c
  · simp only [if_neg h1, if_neg h2, if_pos h3]
  by_cases h4 : y = d
  · simp only [if_neg h1, if_neg h2, if_neg h3, if_pos h4]
  by_cases h5 : y = e
  · simp only [if_neg h1, if_neg h2, if_neg h3, if_neg h4, if_pos h5]
  · simp only [if_neg h1, if_neg h2, if_neg h3, if_neg h4, if_neg h5]
noncomputable abbrev posL : Pos := ⟨124, 17, 124, 87⟩
noncomputable abbrev lightV (gs : List Int) (q : Int × Tok) : Value := .float (lgt gs q.1) q.2
/-- the loop over the five numbers -/
noncomputable def JW (I : Addr) (m0 : Str → Option Value) (lL lW cL cW GL : Addr) (oL oW oG : Obj) (gs nums : List Int) (T0 : List (Addr × Obj)) (r : List Value) (m : Str → Option Value) (n : List (Addr × Obj)) : Prop :=
  ∃ (td : List Int) (tl : List (Int × Tok)) (wv : List Value) (n1 n2 : Nat) (tab : Obj) (X : List (Addr × Obj)) (o1 o2 o3 o4 o5 : Option Value),
    IntsAre r td ∧ tl.map (·.1) ++ td = nums ∧ (∀ q ∈ tl, @LT.lt Nat _ 0 q.2) ∧ IntsAre wv (tl.map fun q => wgt (mapB gs).1 q.1) ∧ LamTab posL qTold tab X ∧ (∀ e ∈ X, @Ne Nat e.1 I ∧ @LT.lt Nat _ lL e.1 ∧ @LT.lt Nat _ lW e.1 ∧ @LT.lt Nat _ 72 e.1 ∧ @LT.lt Nat _ cL e.1 ∧ @LT.lt Nat _ cW e.1 ∧ @LT.lt Nat _ GL e.1 ∧ ∀ q ∈ T0, @LT.lt Nat _ q.1 e.1) ∧
    n = (lL, listOf (tl.map (lightV gs)).toArray n1) :: (lW, listOf wv.toArray n2) :: (72, tab) :: (cL, oL) :: (cW, oW) :: (GL, oG) :: (X ++ T0) ∧
    m = fun y => if y = Str.ofString "told" then o1 else if y = Str.ofString "hue" then o2 else if y = Str.ofString "share" then o3 else if y = Str.ofString "level" then o4 else if y = Str.ofString "number" then o5 else m0 y
theorem jw_start {I : Addr} {m0 : Str → Option Value} {lL lW cL cW GL : Addr} {oL oW oG : Obj} {gs nums : List Int} {T0 : List (Addr × Obj)} {r : List Value} (h : IntsAre r nums) :
    JW I m0 lL lW cL cW GL oL oW oG gs nums T0 r m0 ((lL, listOf ([] : List Value).toArray 0) :: (lW, listOf ([] : List Value).toArray 0) :: (72, tabObj #[]) :: (cL, oL) :: (cW, oW) :: (GL, oG) :: T0) := by
  obtain ⟨o1, o2, o3, o4, o5, e⟩ := five_self (m0 := m0) (a := Str.ofString "told") (b := Str.ofString "hue") (c := Str.ofString "share") (d := Str.ofString "level") (e := Str.ofString "number")
  exact ⟨nums, [], [], 0, 0, tabObj #[], [], o1, o2, o3, o4, o5, h, rfl, (fun _ h => nomatch h), .nil, .inl rfl, (fun _ h => nomatch h), rfl, e⟩
theorem ints_snocT : ∀ {vs : List Value} {ns : List Int} {n : Int} {t : Tok}, IntsAre vs ns → IntsAre (vs ++ [.int n t]) (ns ++ [n])
  | _, _, n, t, .nil => .cons n t .nil
  | _, _, _, _, .cons a b hs => .cons a b (ints_snocT hs)
theorem jw_far {I lL lW cL cW GL c' : Addr} {oc o1 o2 o3 o4 o5 o6 : Obj} {X T0 news : List (Addr × Obj)} (e6 : ∀ e ∈ X, @Ne Nat e.1 I ∧ @LT.lt Nat _ lL e.1 ∧ @LT.lt Nat _ lW e.1 ∧ @LT.lt Nat _ 72 e.1 ∧ @LT.lt Nat _ cL e.1 ∧ @LT.lt Nat _ cW e.1 ∧ @LT.lt Nat _ GL e.1 ∧ ∀ q ∈ T0, @LT.lt Nat _ q.1 e.1)
    (hcc : (∀ q ∈ news, q.1 < c') ∨ (c', oc) ∈ X) (h7 : @LT.lt Nat _ 72 cW) (mI : (I, o1) ∈ news) (mL : (lL, o2) ∈ news) (mW : (lW, o3) ∈ news) (mc : (cL, o4) ∈ news) (mw : (cW, o5) ∈ news) (mG : (GL, o6) ∈ news) (mT : ∀ q ∈ T0, q ∈ news) :
    ∀ e ∈ (c', oc) :: X, @Ne Nat e.1 I ∧ @LT.lt Nat _ lL e.1 ∧ @LT.lt Nat _ lW e.1 ∧ @LT.lt Nat _ 72 e.1 ∧ @LT.lt Nat _ cL e.1 ∧ @LT.lt Nat _ cW e.1 ∧ @LT.lt Nat _ GL e.1 ∧ ∀ q ∈ T0, @LT.lt Nat _ q.1 e.1 := fun e he => by
  rcases List.mem_cons.mp he with rfl | he
  · rcases hcc with hcc | hcc
    · exact ⟨Nat.ne_of_gt (hcc _ mI), hcc _ mL, hcc _ mW, Nat.lt_trans h7 (hcc _ mw), hcc _ mc, hcc _ mw, hcc _ mG, fun q hq => hcc q (mT q hq)⟩
    · exact e6 _ hcc
  · exact e6 e he
theorem jw_next {I : Addr} {m0 : Str → Option Value} {lL lW cL cW GL : Addr} {oL oW oG : Obj} {gs nums : List Int} {T0 X : List (Addr × Obj)} {r : List Value} {n : Int} {td : List Int} {tl : List (Int × Tok)} {wv : List Value} {n1 n2 : Nat} {c' : Addr} {oc : Obj} {ws : Array Value} {tt : Tok} {u tw : Tok} {la : UInt64} {wg : Int} {o1 o2 o3 o4 o5 p1 p2 p3 p4 p5 : Option Value} {AL AW : Array Value}
    (h : IntsAre r td) (e2 : tl.map (·.1) ++ (n :: td) = nums) (e3 : ∀ q ∈ tl, @LT.lt Nat _ 0 q.2) (e4 : IntsAre wv (tl.map fun q => wgt (mapB gs).1 q.1)) (pu : @LT.lt Nat _ 0 u) (el : la = lgt gs n) (ew : wgt (mapB gs).1 n = wg) (hA : (tl.map (lightV gs)).toArray = AL) (hB : wv.toArray = AW)
    (e6 : ∀ e ∈ (c', oc) :: X, @Ne Nat e.1 I ∧ @LT.lt Nat _ lL e.1 ∧ @LT.lt Nat _ lW e.1 ∧ @LT.lt Nat _ 72 e.1 ∧ @LT.lt Nat _ cL e.1 ∧ @LT.lt Nat _ cW e.1 ∧ @LT.lt Nat _ GL e.1 ∧ ∀ q ∈ T0, @LT.lt Nat _ q.1 e.1) (d1 : oc.data = .fields ws) (d2 : ws[1]? = some (.str qTold tt)) :
    JW I m0 lL lW cL cW GL oL oW oG gs nums T0 r (fun y => if y = Str.ofString "told" then p1 else if y = Str.ofString "hue" then p2 else if y = Str.ofString "share" then p3 else if y = Str.ofString "level" then p4 else if y = Str.ofString "number" then p5 else if y = Str.ofString "told" then o1 else if y = Str.ofString "hue" then o2 else if y = Str.ofString "share" then o3 else if y = Str.ofString "level" then o4 else if y = Str.ofString "number" then o5 else m0 y)
      ((lL, listOf (AL.push (.float la u)) (n1 + 1)) :: (lW, listOf (AW.push (.int wg tw)) (n2 + 1)) :: (72, lamTab posL c') :: (cL, oL) :: (cW, oW) :: (GL, oG) :: (c', oc) :: (X ++ T0)) := by
  subst el ew hA hB
  refine ⟨td, tl ++ [(n, u)], wv ++ [.int (wgt (mapB gs).1 n) tw], n1 + 1, n2 + 1, _, (c', oc) :: X, p1, p2, p3, p4, p5, h, ?_, ?_, ?_, .inr ⟨c', oc, ws, tt, List.mem_cons_self, d1, d2, rfl⟩, e6, ?_, five_again⟩
  · rw [← e2, List.map_append, List.append_assoc]; rfl
  · intro q hq
    rcases List.mem_append.mp hq with hq | hq
    · exact e3 q hq
    · rw [List.mem_singleton.mp hq]; exact pu
  · rw [List.map_append]; exact ints_snocT e4
  · rw [List.map_append, List.push_toArray, List.push_toArray]; rfl
end
section
theorem clear_SrtR : True := by k_with_none; trivial
open PySem PySem.Spec PySem.Calls PySem.W PyProof.Rows
set_option maxRecDepth 100000
set_option maxHeartbeats 4000000
section
variable {prog : Program} {w : World} {A : Around} {E : Value → Shared → Prop} {s : Shared}
theorem collect_range {r : Addr} {a b c : Int} {t u v : Tok} {n : Nat} {Q : List Value → Shared → Prop} (hh : A.handled = none) (hr : IsRange s.heap r a b c t u v) (hsmall : Builtin.Range.small a b c = true) (hn : Builtin.Range.rangeSize a b c = n) (hlen : n ≤ 2 ^ 24)
    (h : ∀ h' tk acc, (∀ b o, s.heap.get? b = some o → h'.get? b = some o) → ItemsOf (fun i v => ∃ t, v = .int (a + i * c) t) acc n → Q acc.toList { s with heap := h', toks := tk }) :
    wpAny (model prog w) A (collect (.ref r)) Q E s := by
  have key : ∀ R : Result → Shared → Prop, (∀ h' tk acc c', (∀ b o, s.heap.get? b = some o → h'.get? b = some o) → h'.get? s.heap.objs.size = some { cls := .type "list", dict := none, data := .seq acc c', slots := #[] } → ItemsOf (fun i v => ∃ t, v = .int (a + i * c) t) acc n → R (.ok (.ret (.ref s.heap.objs.size))) { s with heap := h', toks := tk }) →
      codeAny (model prog w) A (.builtin "proto.collect" ⟨[.ref r], []⟩) R s := by
    intro R hR
    refine codeAny_builtin entry_proto_collect' ?_
    show wpAny _ _ (do again (.builtin "list.__iadd__" ⟨[← newList [], .ref r], []⟩)) _ _ s
    refine wpAny_bind (wpAny_newList (wpAny_pure ⟨Code.quiet_builtin _ (by decide +kernel), codeAny_builtin entry_list_iadd' ?_⟩))
    rw [Around.under_plainId PySem.F.plain_list_iadd _]
    show wpAny _ _ (Builtin.List.listExtendWith (.ref s.heap.objs.size) (.ref r) (.ref s.heap.objs.size)) _ _ { s with heap := s.heap.push (seqObj "list" #[] 0) }
    exact wpAny_extend_range (R := R) (s := { s with heap := s.heap.push (seqObj "list" #[] 0) }) hh (Heap.get?_push_of_some _ hr) hsmall hn hlen s.heap.objs.size (.ref s.heap.objs.size) 0 (Heap.get?_push_size _ rfl) fun h' tk acc c' hk hS hi =>
      hR h' tk acc c' (fun b o e => hk b o (Nat.ne_of_lt (Heap.lt_size e)) (Heap.get?_push_of_some _ e)) hS hi
  unfold collect
  refine wpAny_bind (wpAny_runValue (key _ fun h' tk acc c' hk hS hi => ?_))
  show wpAny (model prog w) A (do
      let o ← load s.heap.objs.size
      match o.data with
      | .seq xs _ => pure xs.toList
      | _ => unsupported "internal:collect") Q E { s with heap := h', toks := tk }
  refine wpAny_bind (wpAny_load hS ?_)
  exact wpAny_pure (h h' tk acc hk hi)
end
section
variable {prog : Program} {w : World} {A : Around} {E : Value → Shared → Prop} {s : Shared} {h₀ : Heap} {L l q C : Addr} {m : Str → Option Value} {news : List (Addr × Obj)} {Q : Value → Shared → Prop} {r : Nat → Int}
noncomputable def IntsTo (n : Nat) (vs : List Value) : Prop := vs.length = n ∧ ∀ (i : Nat) (v : Value), vs[i]? = some v → ∃ t, v = Value.int (i : Int) t
/-- `sorted(range(n), key=q)` by own keys -/
theorem srt_range {b t u : Tok} {n : Nat} (hh : A.handled = none) (F : Fr h₀ L s.heap m) (N : News h₀ L s.heap news) (hl : IsRange s.heap l 0 (n : Int) 1 b t u) (hsmall : Builtin.Range.small 0 (n : Int) 1 = true) (hn : Builtin.Range.rangeSize 0 (n : Int) 1 = n) (h2 : 2 ≤ n) (h64 : n < 64)
    (turn : ∀ vs, IntsTo n vs → TurnK prog w A.in1.in1 h₀ L m news C (.ref q) vs s) (cmp : ∀ vs, IntsTo n vs → CmpK prog w A.in1.in1 h₀ L m news C vs r s)
    (h : ∀ vs D h' tk c, IntsTo n vs → Fr h₀ L h' m → News h₀ L h' ((D, seqObj "list" (((kev (ans r) (kas_sort vs.length)).toList.map fun i => vs.getD i .none).toArray) c) :: news) → (∀ x ∈ news, x.1 < D) → Q (.ref D) { s with heap := h', toks := tk }) :
    wpAny (model prog w) A (call (.builtin "sorted") [.ref l] [(Str.ofString "key", .ref q)]) Q E s := by
  refine call_function_entry_kw kind_sorted plain_sorted entry_sorted (ksk_s1 _ _) ?_
  unfold Builtin.«sorted»
  refine wpAny_bind (m := checkCount "sorted" 1 1 _) (wpAny_pure ?_)
  refine wpAny_bind (collect_range (n := n) (show A.in1.handled = none from hh) hl hsmall hn (Nat.le_of_lt (Nat.lt_of_lt_of_le h64 (show 64 ≤ 2 ^ 24 from Nat.le_of_ble_eq_true rfl))) fun h1 tk1 acc keep hi => ?_)
  have hvs : IntsTo n acc.toList := ⟨by rw [Array.length_toList]; exact hi.1, fun i v e => by
    obtain ⟨t, e2⟩ := hi.2 i v (by rw [← Array.getElem?_toList]; exact e)
    exact ⟨t, by rw [e2, Int.zero_add, Int.mul_one]⟩⟩
  generalize acc.toList = vs at hvs
  have hlen := hvs.1
  have F1 : Fr h₀ L h1 m := F.kept keep
  have N1 : News h₀ L h1 news := N.grown keep
  refine wpAny_bind (wpAny_newList ?_ (by rw [hlen, sizeLine_eq]; omega))
  have hoL : (h1.push (seqObj "list" vs.toArray 0)).get? h1.objs.size = some (seqObj "list" vs.toArray 0) := Heap.get?_push_size _ rfl
  have hL : L < h1.objs.size := F1.ns.lt
  show wpAny _ _ _ _ _ { s with heap := h1.push (seqObj "list" vs.toArray 0), toks := tk1 }
  refine wpAny_bind (wpAny_holding (wpAny_call_entry_kw slot_list_sort ⟨_, hoL, rfl⟩ entry_list_sort ?body (ksk_l1 _ _)))
  case body =>
    show wpAny (model prog w) A.in1.in1 (Builtin.«list.sort» ⟨[.ref h1.objs.size], [(Str.ofString "key", .ref q)]⟩) _ _ _
    rw [ksk_t1]
    refine srt_sort (s := { s with heap := h1.push (seqObj "list" vs.toArray 0), toks := tk1 })
      (F1.push _) (N1.grown fun b o e => Heap.get?_push_of_some _ e) hoL (Nat.ne_of_gt hL) (Heap.get?_none_of_le (Nat.le_trans F1.above (Nat.le_of_lt hL)))
      (fun p hp => Nat.ne_of_lt (Heap.lt_size (N1 p hp).1)) (by omega) (by omega) (turn vs hvs) (cmp vs hvs) fun h' tk c F' N' => ⟨_, rfl, ?_⟩
    exact wpAny_pure ⟨_, rfl, h vs _ h' tk c hvs F' N' (fun x hx => Heap.lt_size (N1 x hx).1)⟩
end
end
section
theorem clear_KeyF : True := by k_with_none; trivial
open PySem PySem.Calls PySem.W PyProof.Rows PySem.Spec
set_option maxRecDepth 100000
set_option maxHeartbeats 8000000
theorem fillKF : True := by
  have h2 : (hd.heap_1 = hd.heap_1 ∧ PySem.Challenge.rw_mq0203_02 = PySem.Challenge.rw_mq0203_02) → True := fun _ => trivial
  apply h2
  k_fill
  exact ⟨rfl, rfl⟩
theorem lyne_KeyF_1 : True := by
  k_with "k_dflt_done!" => first | with_reducible assumption | with_reducible exact List.mem_cons_self | (with_reducible refine List.mem_cons_of_mem _ ?_; k_dflt done)
  trivial
theorem line_KeyF_1 : True := by
  k_with "eval Name!" => (k_here; (with_reducible show wpAny _ _ (eval (Expr.Name (Str.ofString "mycmp") _) _) _ _ _); k_dflt (refine' nameX_F ?N ?c ?m ?d ?_ ?a ?b; (case a => rfl); (case b => rfl); (case N => k_asm); (case c => rfl); (case m => k_mem); (case d => assumption); k_whole))
  trivial
theorem line_KeyF_2 : True := by
  k_with "callWith ref!" => (k_here; k_dflt (refine' callWith_F ?k1 ?_; (case k1 => exact hfn (by k_asm) (by k_asm) (by k_asm) (fun q hq => List.mem_cons_of_mem _ (List.mem_cons_of_mem _ (List.mem_cons_of_mem _ (sub2 q hq))))); k_whole))
  trivial
theorem line_KeyF_3 : True := by
  k_with "And!" => (refine ⟨hfn (by k_asm) (by k_asm) (by k_asm) (fun q hq => List.mem_cons_of_mem _ (List.mem_cons_of_mem _ (List.mem_cons_of_mem _ (sub2 q hq)))), ?_⟩; try dsimp only [List.nil_append, List.cons_append])
  trivial
theorem line_KeyF_4 : True := by
  k_with "getAttr!" => (k_here; k_dflt (refine' key_objN ?N ?m1 ?m2 ?m3 ?m4 ?hx ?kI ?hh ?_; (case N => k_asm); (case hx => k_dflt done); (case kI => assumption); (case m1 => k_dflt done); (case m2 => k_dflt done); (case m3 => k_dflt done); (case m4 => exact List.mem_cons_self); (case hh => rfl)))
  trivial
theorem line_KeyF_5 : True := by
  k_with "call ref!" => (refine stop_mark2 ?_)
  trivial
section
variable {w : World} {p : Program} {loose : List Str} {mean : ExcName → Option Value} {mg mb : Str → Option Value} {dp un : Nat} {gd : Option (List Code)} {cn : Str} {cs : Scope} {a : Addr} {ccd : Value} {cl : List (Str × Addr)} {outer : List Env} {A₀ : Around} {base h₀ : Heap} {L : Addr} {m : Str → Option Value} {news : List (Addr × Obj)} {s : Shared}
set_option pp.deepTerms false
set_option pp.deepTerms.threshold 5
theorem cmp_keyF {K L1 f' : Addr} {ds : List (Addr × Obj)} {oc : Obj} {vs : List Value} {r : Nat → Int} {nd nu : Nat} (kM : KMade w.params L1 K ds) (sub : ∀ p ∈ ds, p ∈ news) (moc : (L1 + 1, oc) ∈ news) (dOc : oc.data = .cell (some (.ref f')))
    (hv : ∀ v ∈ vs, ∃ n t, v = .int n t)
    (hfn : ∀ {g h : Heap} {L : Addr} {m : Str → Option Value} {l : List (Addr × Obj)}, News g L h l → Fr g L h m → (hd.heap_1 w.params).In g → (∀ q ∈ news, q ∈ l) → FnAt f' h)
    (hc : ∀ i j, (hi : i < vs.length) → (hj : j < vs.length) → CallK w nd nu (.ref f') [vs[i], vs[j]] (fun l => ∀ q ∈ news, q ∈ l) (fun x fresh => ∃ y t, x = .float y t ∧ (Float64.cmpInt y 0 == some Ordering.lt) = decide (r i < r j)))
    (B : Below A₀ base outer h₀) (X : (hd.heap_1 w.params).In h₀) (T : Top p loose mean mg mb h₀) (hk : cs.kind = .function) (hdp : dp + nd + 1 < recursionLimit) (hun : un + nu + 8 < cLine) :
    CmpK PySem.Challenge.rw_mq0203_02.prog w (ktrTop dp un gd cn cs L a ccd cl outer) h₀ L m news K vs r s := by
  obtain ⟨ns, bT, mdA, sl, F0, F1, F2, F3, F4, F5, sa, c0, c1, T', k, md, ha, hd', ta, td, t5, tk, oc0, oc1, nm, ctv0, ctv1, mK, mns, mmd, mF0, mc0, co0, mF1, mc1, ⟨cc1, vs1, tq1, cd1, cv1⟩⟩ := kM
  have mF1 := (id mF1 : (F1, fnMade "__lt__" "cmp_to_key.<locals>.K.__lt__" (dPar (kDef w.params 3)) (dBody (kDef w.params 3)) (dScope (kDef w.params 3)) [(("mycmp" : Str), L1 + 1)] _ _ _ _) ∈ _)
  have eS := asEq (a := Scope.mk .function [_, _, _] false false []) (b := dScope (kDef w.params 3)) rfl
  have eP := asEq (a := Arguments.mk [] [_, _] none [] [] none []) (b := dPar (kDef w.params 3)) rfl
  have eB := asEq (a := [_]) (b := dBody (kDef w.params 3)) rfl
  rw [← eS, ← eP, ← eB] at mF1
  clear eS eP eB
  intro i j ki oi kj oj h tkh own hi hj F N mi mj kIi kIj
  have up : ∀ p ∈ ds, p ∈ news ++ own := fun p hp => List.mem_append_left _ (sub p hp)
  have m1 := up _ mK
  have m2 := up _ mns
  have m3 := up _ mmd
  have m4 := up _ mF1
  have m5 := up _ mc1
  have m6 := List.mem_append_left own moc
  have m7 := List.mem_append_right news mi
  have m8 := List.mem_append_right news mj
  have hcc := hc i j hi hj
  have sub2 : ∀ p ∈ news, p ∈ news ++ own := fun p hp => List.mem_append_left _ hp
  obtain ⟨ai, tai, ei⟩ := hv _ (List.getElem_mem hi)
  obtain ⟨aj, taj, ej⟩ := hv _ (List.getElem_mem hj)
  rw [ei] at kIi hcc
  rw [ej] at kIj hcc
  generalize hT9 : news ++ own = T9 at N m1 m2 m3 m4 m5 m6 m7 m8 sub2 ⊢
  clear mK mns mmd mF0 mc0 co0 mF1 mc1 sub up moc mi mj hc
  obtain ⟨h0, h1, h2⟩ := key_ne N m1 m2 m3
  have hne : F1 ≠ K ∧ F1 ≠ ns ∧ F1 ≠ mdA := ⟨cls_ne (a := "function") (b := "type") N m4 m1 (by decide), cls_ne (a := "function") (b := "dict") N m4 m2 (by decide), cls_ne (a := "function") (b := "member_descriptor") N m4 m3 (by decide)⟩
  refine lt_inst (K := kk K ns mdA F1 bT tk (T' 4) t5 _ _) ?hu (kk_in (N _ m1).1 (N _ m2).1 (N _ m3).1 (N _ m4).1) (N _ m7).1 kIi.1 (kk_own h0 d_lt) (kk_fn hne.1 hne.2.1 hne.2.2 rfl) ?_
  case hu => ktr_units
  have N2 : News h₀ L h ((F1, _) :: (c1, oc1) :: (L1 + 1, oc) :: T9) := N.perm fun q hq => by
    rcases List.mem_cons.mp hq with rfl | hq
    · exact m4
    · rcases List.mem_cons.mp hq with rfl | hq
      · exact m5
      · rcases List.mem_cons.mp hq with rfl | hq
        · exact m6
        · exact hq
  clear N
  refine wpAny_call ?_
  (refine' code_nest ?k1 ?k2 ?k3 ?k4 ?k5 ?kA ?kF ?kK ?k6 ?k7 ?k8 ?k9 ?kB ?_ ?c2 ?c3 ?c4 ?c5; (case kA => exact rfl); (case kF => exact rfl); (case kK => assumption); (case k1 => k_asm); (case k2 => k_asm); (case k3 => k_asm); (case k4 => k_asm); (case k5 => k_asm); (case k6 => k_mem); (case k7 => exact codeRec_news (by k_asm) (by k_mem) (by assumption) (by assumption)); (case k8 => ktr_room); (case k9 => exact BindsTo.of_eq rfl); (case c5 => decide); (case kB => exact locs rfl); (case c2 => exact rfl); (case c3 => exact rfl); (case c4 => exact rfl); k_whole; intro g' L' h' FG' F' N' B' X' T'; (try dsimp only); (try k_lift B'); (try k_fold))
  k_steps
  unfold Stop2
  k_dflt (refine' hcc ?B ?F ?X ?N ?T ?hk ?hd ?hu ?P ?_)
  case B => k_asm
  case F => k_asm
  case X => k_asm
  case N => k_asm
  case T => k_asm
  case hk => rfl
  case hd => simp only [ktrTop]; omega
  case hu => first | ktr_units | (simp only [ktrTop]; omega)
  case P => exact fun q hq => List.mem_cons_of_mem _ (List.mem_cons_of_mem _ (List.mem_cons_of_mem _ (sub2 q hq)))
  rintro x fresh h9 tk9 F9 N9 lt9 ⟨y9, t9, rfl, hy9⟩
  k_steps
  · k_asm
  · refine News.perm (by k_asm) (fun q hq => ?_)
    repeat' first | exact hq | exact List.mem_append_right _ (List.mem_cons_of_mem _ (List.mem_cons_of_mem _ (List.mem_cons_of_mem _ hq))) | apply List.mem_cons_of_mem
theorem sort_keyR {K L1 f' l : Addr} {ds : List (Addr × Obj)} {oc : Obj} {r : Nat → Int} {nd nu n : Nat} {Q E : Value → Shared → Prop} {tb tt tu : Tok} (F : Fr h₀ L s.heap m) (N : News h₀ L s.heap news) (hl : IsRange s.heap l 0 (n : Int) 1 tb tt tu) (hsmall : Builtin.Range.small 0 (n : Int) 1 = true) (hn : Builtin.Range.rangeSize 0 (n : Int) 1 = n) (h2 : 2 ≤ n) (h64 : n < 64)
    (kM : KMade w.params L1 K ds) (sub : ∀ p ∈ ds, p ∈ news) (moc : (L1 + 1, oc) ∈ news) (dOc : oc.data = .cell (some (.ref f')))
    (hfn : ∀ {g h : Heap} {L : Addr} {m : Str → Option Value} {l : List (Addr × Obj)}, News g L h l → Fr g L h m → (hd.heap_1 w.params).In g → (∀ q ∈ news, q ∈ l) → FnAt f' h)
    (hc : ∀ (i j : Nat) (t u : Tok), i < n → j < n → CallK w nd nu (.ref f') [.int i t, .int j u] (fun l => ∀ q ∈ news, q ∈ l) (fun x fresh => ∃ y t, x = .float y t ∧ (Float64.cmpInt y 0 == some Ordering.lt) = decide (r i < r j)))
    (B : Below A₀ base outer h₀) (X : (hd.heap_1 w.params).In h₀) (T : Top p loose mean mg mb h₀) (hk : cs.kind = .function) (hdp : dp + nd + 1 < recursionLimit) (hun : un + 2 + nu + 8 < cLine) (hd1 : dp ≤ 400) (hu1 : un + 2 ≤ 500)
    (h : ∀ vs D h' tk c, IntsTo n vs → Fr h₀ L h' m → News h₀ L h' ((D, seqObj "list" (((kev (ans r) (kas_sort vs.length)).toList.map fun i => vs.getD i .none).toArray) c) :: news) → (∀ x ∈ news, x.1 < D) → Q (.ref D) { s with heap := h', toks := tk }) :
    wpAny (model PySem.Challenge.rw_mq0203_02.prog w) (ktrTop dp un gd cn cs L a ccd cl outer) (call (.builtin "sorted") [.ref l] [(Str.ofString "key", .ref K)]) Q E s := by
  refine srt_range rfl F N hl hsmall hn h2 h64 (fun vs hvs => turn_key (A := (ktrTop dp (un + 2) gd cn cs L a ccd cl outer)) rfl hd1 hu1 kM sub X) (fun vs hvs => ?_) h
  have hv : ∀ v ∈ vs, ∃ n t, v = Value.int n t := fun v hv => by
    obtain ⟨i, hi, rfl⟩ := List.getElem_of_mem hv
    obtain ⟨t, e⟩ := hvs.2 i _ (List.getElem?_eq_getElem hi)
    exact ⟨_, t, e⟩
  have hcmp : CmpK PySem.Challenge.rw_mq0203_02.prog w (ktrTop dp (un + 2) gd cn cs L a ccd cl outer) h₀ L m news K vs r s := cmp_keyF kM sub moc dOc hv hfn (fun i j hi hj => by
    obtain ⟨t, e⟩ := hvs.2 i _ (List.getElem?_eq_getElem hi)
    obtain ⟨u, e'⟩ := hvs.2 j _ (List.getElem?_eq_getElem hj)
    rw [e, e']
    exact hc i j t u (hvs.1 ▸ hi) (hvs.1 ▸ hj)) B X T hk hdp hun
  exact hcmp
end
end
section
theorem clear_EndP : True := by k_with_none; trivial
open PySem PySem.W PySem.Calls PyProof.Rows
theorem row_at {r : Nat → Int} {N one : Nat} (h1 : 1 ≤ N) (ho : one < N) :
    (kev (ans r) (kas_sort N)).toList[((List.range N).filter fun o => decide (r o < r one ∨ (r o = r one ∧ o < one))).length]? = some one := by
  obtain ⟨p, e, P, U⟩ := sort_ok (r := r) h1
  rw [e]
  have hp : p.toList.Perm (List.range N) := by
    have := P.pm
    rw [Array.perm_iff_toList_perm] at this
    simpa using this
  have hl : p.toList.Pairwise (LL r) := by
    rw [List.pairwise_iff_getElem]
    intro i j hi hj hij
    have hi' : i < p.size := by simpa using hi
    have hj' : j < p.size := by simpa using hj
    have u := U i j hij (by rw [← P.size]; exact hj')
    rw [gd_at hi', gd_at hj'] at u
    simpa using u
  generalize p.toList = l at hp hl
  have hm : one ∈ l := hp.mem_iff.mpr (List.mem_range.mpr ho)
  rw [← (hp.filter _).length_eq]
  obtain ⟨pre, post, rfl⟩ := List.append_of_mem hm
  rw [List.pairwise_append] at hl
  obtain ⟨_, hpost, hpre⟩ := hl
  have f1 : pre.filter (fun o => decide (r o < r one ∨ (r o = r one ∧ o < one))) = pre := List.filter_eq_self.mpr fun x hx => decide_eq_true (hpre x hx one List.mem_cons_self)
  have f2 : (one :: post).filter (fun o => decide (r o < r one ∨ (r o = r one ∧ o < one))) = [] := List.filter_eq_nil_iff.mpr fun x hx => by
    rcases List.mem_cons.mp hx with rfl | hx
    · simp
    · have q : LL r one x := (List.pairwise_cons.mp hpost).1 x hx
      unfold LL at q
      simp only [decide_eq_true_eq]
      omega
  rw [List.filter_append, f1, f2, List.append_nil]
  simp
end
section
theorem clear_EndB : True := by k_with_none; trivial
open PySem PySem.Calls PySem.W PyProof.Rows PySem.Spec
theorem norm37 {h₀ h : Heap} {L : Addr} {l : List (Addr × Obj)} (_ : News h₀ L h l) : ∃ news0 : List (Addr × Obj), (∀ p ∈ news0, p ∈ l ∧ p.1 ≠ 37) ∧ ∀ p ∈ l, @Ne Nat p.1 37 → p ∈ news0 :=
  ⟨l.filter fun p => decide (@Ne Nat p.1 37), fun p hp => ⟨(List.mem_filter.mp hp).1, of_decide_eq_true (List.mem_filter.mp hp).2⟩, fun p hp hn => List.mem_filter.mpr ⟨hp, decide_eq_true hn⟩⟩
theorem key_norm {h₀ h : Heap} {L : Addr} {kd news0 l : List (Addr × Obj)} {x : Addr × Obj} (N : News h₀ L h (kd ++ x :: news0)) (hn2 : ∀ p ∈ l, @Ne Nat p.1 37 → p ∈ news0) :
    ∃ T5, News h₀ L h T5 ∧ (∀ p ∈ l, @Ne Nat p.1 37 → p ∈ T5) ∧ (∀ p ∈ kd, p ∈ T5) ∧ x ∈ T5 :=
  ⟨_, N, fun p hp hne => List.mem_append_right _ (List.mem_cons_of_mem _ (hn2 p hp hne)), fun p hp => List.mem_append_left _ hp, List.mem_append_right _ List.mem_cons_self⟩
theorem headN {h₀ h : Heap} {L : Addr} {q : Addr × Obj} {l : List (Addr × Obj)} (N : News h₀ L h l) (hq : q ∈ l) : News h₀ L h (q :: l) := N.perm fun p hp => by
  rcases List.mem_cons.mp hp with rfl | hp
  · exact hq
  · exact hp
theorem rng_news {h₀ h1 h2 : Heap} {L R : Addr} {m : Str → Option Value} {news : List (Addr × Obj)} {a b c : Int} {t u v : Tok} (F : Fr h₀ L h1 m) (N1 : News h₀ L h1 news) (N : News h₀ L h2 news) (eR : R = h1.objs.size) (hr : IsRange h2 R a b c t u v) :
    ∃ o, News h₀ L h2 ((R, o) :: news) ∧ (∀ p ∈ news, p.1 < R) ∧ ∀ h : Heap, h.get? R = some o → IsRange h R a b c t u v := by
  have hL : L < R := eR ▸ F.ns.lt
  have hr2 : h2.get? R = some _ := hr
  refine ⟨_, fun p hp => ?_, fun p hp => eR ▸ Heap.lt_size (N1 p hp).1, fun h e => e⟩
  rcases List.mem_cons.mp hp with rfl | hp
  · exact ⟨hr2, Nat.ne_of_gt hL, Heap.get?_none_of_le (Nat.le_trans F.above (Nat.le_of_lt hL))⟩
  · exact N p hp
theorem stop_mk {K P : Prop} (_ : K) (h : Stp P) : P := h
noncomputable def MkR : Prop := True
noncomputable def MkS : Prop := True
noncomputable def MkT : Prop := True
theorem sub_nat {prog : Program} {w : World} {A : Around} {E : Value → Shared → Prop} {s : Shared} {h₀ : Heap} {L l : Addr} {news : List (Addr × Obj)} {its : Array Value} {n i : Nat} {u : Tok} {x : Value} {value slice : PySem.Expr} {Q : Value → Shared → Prop} (N : News h₀ L s.heap news) (hm : (l, listOf its n) ∈ news) (hi : i < 64) (hx : its[i]? = some x) (h : Q x s)
    (hs : subscripted slice false (.ref l) (.int (i : Int) u) = operate [.ref l, .int (i : Int) u] (getItem (.ref l) (.int (i : Int) u)) := by with_unfolding_all rfl) :
    wpAny (model prog w) A (subscriptTail value slice (.ref l) (.int (i : Int) u)) Q E s := by
  have hl : s.heap.IsList l its := ⟨_, (N _ hm).1, rfl, n, rfl⟩
  exact subscriptTail_builtinR hl.typeIs slot_list_getitem.lookup (wpAny_getItem_list (Q := fun r s' => r = _ ∧ Q r s') hl (Int.natCast_nonneg i) (by omega) (x := x) (by rw [Int.toNat_natCast]; exact hx) ⟨rfl, h⟩) hs
/-- the light as a whole number of 2^-15 -/
noncomputable abbrev lightN (gs : List Int) (n : Int) : Int := (mapB gs).1 * (2 * (64 * levelN n) - levelN n * shareN n * 8) + 64 * (mapB gs).2
theorem nat_bounds (n : Int) : 0 ≤ shareN n ∧ shareN n ≤ 8 ∧ 0 ≤ levelN n ∧ levelN n ≤ 8 :=
  ⟨Int.fmod_nonneg_of_pos _ (by decide), Int.le_of_lt_add_one (Int.fmod_lt_of_pos _ (by decide)), Int.fmod_nonneg_of_pos _ (by decide), Int.le_of_lt_add_one (Int.fmod_lt_of_pos _ (by decide))⟩
theorem light_b {gs : List Int} {n : Int} (hg : ∀ g ∈ gs, 0 ≤ g ∧ g ≤ 9) (h5 : gs.length ≤ 5) : (lightN gs n).natAbs < 2 ^ 50 := by
  obtain ⟨a, b, c, d⟩ := nat_bounds n
  obtain ⟨L, P, H, g, e, hP, hl, hH, hH2⟩ := end_gen (h := 0) (by decide) (by decide) a b c d hg h5
  unfold lightN
  rw [← hl]
  exact (gen_add g).2.1
theorem light_wgt {gs : List Int} {n : Int} (nz : (mapB gs).1 ≠ 0) : lightN gs n = ((mapB gs).1.natAbs : Int) * (8 * wgt (mapB gs).1 n) + 64 * (mapB gs).2 := by
  unfold lightN wgt
  generalize levelN n = l
  generalize shareN n = s
  generalize (mapB gs).1 = S at *
  have e : 2 * (64 * l) - l * s * 8 = 8 * (l * (16 - s)) := by rw [Int.mul_sub]; generalize l * s = y; omega
  rw [e]
  congr 1
  by_cases h : S > 0
  · rw [if_pos h, Int.mul_one, show (S.natAbs : Int) = S by omega]
  · rw [if_neg h, show (S.natAbs : Int) = -S by omega]
    rw [Int.mul_neg, Int.mul_one, Int.mul_neg, Int.neg_mul_neg]
theorem light_lt {gs : List Int} {a b : Int} (hg : ∀ g ∈ gs, 0 ≤ g ∧ g ≤ 9) (h5 : gs.length ≤ 5) : (Float64.cmpInt (Float64.sub (lgt gs a) (lgt gs b)) 0 == some Ordering.lt) = decide (wgt (mapB gs).1 a < wgt (mapB gs).1 b) := by
  have ha := light_b (n := a) hg h5
  have hb := light_b (n := b) hg h5
  have nz := map_nz h5
  have e : ∀ n, lgt gs n = fl (lightN gs n) 15 := fun _ => rfl
  have hab := sb50 ha hb
  rw [e, e, fl_sub (u53 ha) (u53 hb) hab (by decide), ← Flt.cmp_zero_r, lit0k 15, fl_cmp hab (by decide) (by decide)]
  have key : (lightN gs a - lightN gs b < 0) ↔ wgt (mapB gs).1 a < wgt (mapB gs).1 b := by
    rw [light_wgt nz, light_wgt nz]
    have p : 0 < ((mapB gs).1.natAbs : Int) := by omega
    generalize ((mapB gs).1.natAbs : Int) = S at *
    generalize wgt (mapB gs).1 a = x
    generalize wgt (mapB gs).1 b = y
    constructor
    · intro h
      have h2 : S * (8 * x) < S * (8 * y) := by omega
      have := Int.lt_of_mul_lt_mul_left h2 (Int.le_of_lt p)
      omega
    · intro h
      have := Int.mul_lt_mul_of_pos_left (show 8 * x < 8 * y by omega) p
      omega
  rcases Int.lt_trichotomy (lightN gs a - lightN gs b) 0 with h | h | h
  · rw [Int.compare_eq_lt.mpr h, decide_eq_true (key.mp h)]; rfl
  · rw [Int.compare_eq_eq.mpr h, decide_eq_false (fun q => by have := key.mpr q; omega)]; rfl
  · rw [Int.compare_eq_gt.mpr h, decide_eq_false (fun q => by have := key.mpr q; omega)]; rfl
section
variable {prog : Program} {w : World} {A : Around} {E : Value → Shared → Prop} {s : Shared} {h₀ : Heap} {L : Addr} {m : Str → Option Value} {env : Env}
theorem comp_restT {ct elt : PySem.Expr} {x : Str} {scope : Scope} {cl : List (Str × Addr)} {S : List (Addr × Obj) → Prop} {P : Nat → Value → Prop} {Fin : List Value → List (Addr × Obj) → Prop} {n : Nat} (J : Nat → List Value → List (Addr × Obj) → Prop)
    (step : ∀ i ys news v I oI C oC D m₂ h tk (E' : Value → Shared → Prop), i < n → J i ys news → P i v → LCg.NsObj oC m₂ → m₂ x = some v → Fr h₀ L h m → News h₀ L h ((I, oI) :: (C, oC) :: (D, LCg.lst ys) :: news) → LCg.Off3 I C D news → ((@Ne Nat I C) ∧ (@Ne Nat I D) ∧ (@Ne Nat C D)) →
      wpAny (model prog w) A (isTrue ct (compEnvC scope cl C env) (eval ct (compEnvC scope cl C env))) (fun ok s' => if ok = true then
        wpAny (model prog w) A (eval elt (compEnvC scope cl C env)) (LCg.CompEnd h₀ L m { s with heap := h, toks := tk } I oI C oC D (LCg.lst ys) S (fun y news' => J (i + 1) (ys ++ [y]) news')) E' s'
        else LCg.CompEnd h₀ L m { s with heap := h, toks := tk } I oI C oC D (LCg.lst ys) S (fun _ news' => J (i + 1) ys news') Value.none s') E' { s with heap := h, toks := tk })
    (fin : ∀ ys news, J n ys news → Fin ys news) :
    ∀ k i ys news, i + k = n → J i ys news → LCt.CompRestT prog w A h₀ L m env ct elt x scope cl s S P Fin k i ys news
  | 0, i, ys, news, e, j => .zero (fin ys news (by rw [← e]; exact j))
  | k + 1, i, ys, news, e, j => .succ fun v I oI C oC D m₂ h tk E' hp hn hx F N o3 ne => wpAny_mono (step i ys news v I oI C oC D m₂ h tk E' (by omega) j hp hn hx F N o3 ne) (fun ok s₂ p => by
      cases ok with
      | true =>
        simp only [if_true] at p ⊢
        exact wpAny_mono p (fun y s₃ q => by
          obtain ⟨h', tk', news', e1, F', N', o', hS, j'⟩ := q
          exact ⟨h', tk', news', e1, F', N', o', hS, comp_restT J step fin k (i + 1) (ys ++ [y]) news' (by omega) j'⟩) fun _ _ e => e
      | false =>
        simp only [Bool.false_eq_true, if_false] at p ⊢
        obtain ⟨h', tk', news', e1, F', N', o', hS, j'⟩ := p
        exact ⟨h', tk', news', e1, F', N', o', hS, comp_restT J step fin k (i + 1) ys news' (by omega) j'⟩) fun _ _ e => e
end
noncomputable abbrev wAt (S : Int) (ns : List Int) (i : Nat) : Int := wgt S (ns.getD i 0)
/-- how many stand ahead of a colour -/
noncomputable abbrev cnt (S : Int) (ns : List Int) (one : Nat) : Nat := ((List.range 5).filter fun o => decide (wAt S ns o < wAt S ns one ∨ (wAt S ns o = wAt S ns one ∧ o < one))).length
theorem row_of {S : Int} {ns : List Int} {vs : List Value} (hv : IntsTo 5 vs) : ∃ vR : List Value, ((kev (ans fun i => wAt S ns i) (kas_sort vs.length)).toList.map fun i => vs.getD i .none) = vR ∧ ∀ one, one < 5 → ∃ t, vR[cnt S ns one]? = some (.int (one : Int) t) := by
  refine ⟨_, rfl, fun one ho => ?_⟩
  have r := row_at (r := fun i => wAt S ns i) (N := 5) (by decide) ho
  obtain ⟨t, e⟩ := hv.2 one _ (List.getElem?_eq_getElem (by rw [hv.1]; exact ho))
  refine ⟨t, ?_⟩
  rw [hv.1, List.getElem?_map]
  unfold cnt
  rw [r]
  show some (vs.getD one .none) = _
  rw [← e, List.getD_eq_getElem?_getD, List.getElem?_eq_getElem (by rw [hv.1]; exact ho)]
  rfl
end
section
theorem clear_TupL : True := by k_with_none; trivial
open PySem PySem.SeqAt PySem.W PyProof.Rows
open AutoSeq1 (wpAny_loadPart')
open MeetsSeq MeetsSeq2 MeetsSeq3 SeqRoads2
set_option maxRecDepth 100000
set_option maxHeartbeats 4000000
theorem rich_lt {prog : Program} {w : World} {A : Around} {E : Value → Shared → Prop} {s : Shared} {Q : Value → Shared → Prop} {a b : Int} {t u : Tok} (h : Q (.bool (decide (a < b))) s) : wpAny (model prog w) A (richCompare .Lt (.int a t) (.int b u)) Q E s := lt_int h
theorem tuple_lt2 (l b : Addr) (x1 x2 y1 y2 : Int) (t1 t2 u1 u2 : Tok) (n n2 : Nat) (dd dd2 : Option Addr) (sl sl2 : Array (Option Value)) :
    Meets (Builtin.«tuple.__lt__» ⟨[.ref l, .ref b], []⟩)
      (fun A R s => s.heap.get? l = some { cls := .type "tuple", dict := dd, data := .seq #[.int x1 t1, .int x2 t2] n, slots := sl } ∧ s.heap.get? b = some { cls := .type "tuple", dict := dd2, data := .seq #[.int y1 u1, .int y2 u2] n2, slots := sl2 } ∧
        R (.ok (.ret (.bool (decide (x1 < y1 ∨ (x1 = y1 ∧ x2 < y2)))))) s) :=
  .of_wp fun prog w A R s h => by
    obtain ⟨hp, g, d, tk, os⟩ := s; obtain ⟨hl, hb, h⟩ := h
    have f2 := AutoSeq1.sub_tuple_tuple
    wp_walk using wpAny_loadPart' hl, wpAny_loadPart' hb, wpAny_forIn_list _ (fun rest b s' => b.1 = none ∧ s' = ⟨hp, g, d, tk, os⟩ ∧ (rest = [(Value.int x1 t1, Value.int y1 u1), (.int x2 t2, .int y2 u2)] ∨ (rest = [(.int x2 t2, .int y2 u2)] ∧ x1 = y1) ∨ (rest = [] ∧ x1 = y1 ∧ x2 = y2))) _
    case turn =>
      rintro ⟨y, x⟩ rest b s' ⟨hb', rfl, hc⟩
      rcases hc with hc | ⟨hc, e1⟩ | ⟨hc, _⟩
      · injection hc with hyx hrest
        injection hyx with hy hx
        subst hy hx hrest
        refine wpAny_bind (EqAt.int_int x1 t1 y1 u1 prog w _ _ ?_)
        cases hy : (x1 == y1) with
        | true =>
          wp_walk
          exact ⟨rfl, rfl, .inr (.inl ⟨rfl, beq_iff_eq.mp hy⟩)⟩
        | false =>
          have hne : x1 ≠ y1 := fun e => by rw [e, beq_self_eq_true] at hy; exact nomatch hy
          wp_walk using rich_lt
          exact ⟨_, rfl, by rw [show decide (x1 < y1 ∨ (x1 = y1 ∧ x2 < y2)) = decide (x1 < y1) from decide_eq_decide.mpr ⟨fun q => q.elim id fun q => absurd q.1 hne, .inl⟩] at h; exact h⟩
      · injection hc with hyx hrest
        injection hyx with hy hx
        subst hy hx hrest
        refine wpAny_bind (EqAt.int_int x2 t2 y2 u2 prog w _ _ ?_)
        cases hy : (x2 == y2) with
        | true =>
          wp_walk
          exact ⟨rfl, rfl, .inr (.inr ⟨rfl, e1, beq_iff_eq.mp hy⟩)⟩
        | false =>
          wp_walk using rich_lt
          exact ⟨_, rfl, by rw [show decide (x1 < y1 ∨ (x1 = y1 ∧ x2 < y2)) = decide (x2 < y2) from decide_eq_decide.mpr ⟨fun q => q.elim (fun q => absurd q (by omega)) And.right, fun q => .inr ⟨e1, q⟩⟩] at h; exact h⟩
      · exact nomatch hc
    case fin =>
      rintro ⟨b1, b2⟩ s' ⟨hb', rfl, hc⟩
      simp only at hb'
      subst hb'
      wp_walk
      rcases hc with hc | ⟨hc, _⟩ | ⟨_, e1, e2⟩
      · exact nomatch hc
      · exact nomatch hc
      · exact ⟨_, rfl, by rw [show decide (x1 < y1 ∨ (x1 = y1 ∧ x2 < y2)) = false from decide_eq_false (by omega)] at h; exact h⟩
    case h =>
      exact ⟨rfl, rfl, .inl rfl⟩
section
variable {prog : Program} {w : World} {A : Around} {E : Value → Shared → Prop} {s : Shared}
theorem lt_tups {l b : Addr} {x1 x2 y1 y2 : Int} {t1 t2 u1 u2 : Tok} {Q : Value → Shared → Prop} {h₀ : Heap} {L : Addr} {news : List (Addr × Obj)} (N : News h₀ L s.heap news) (hl : (l, ({ cls := .type "tuple", data := .seq #[.int x1 t1, .int x2 t2] } : Obj)) ∈ news) (hb : (b, ({ cls := .type "tuple", data := .seq #[.int y1 u1, .int y2 u2] } : Obj)) ∈ news) (hu : A.units < cLine)
    (h : Q (.bool (decide (x1 < y1 ∨ (x1 = y1 ∧ x2 < y2)))) s) : wpAny (model prog w) A (compareOp .Lt (.ref l) (.ref b)) Q E s :=
  show wpAny (model prog w) A (richCompare .Lt (.ref l) (.ref b)) Q E s from
  richCompare_meets_room (op := .Lt) ⟨_, (N _ hl).1, rfl⟩ ⟨_, (N _ hb).1, rfl⟩ PySem.F.slot_tuple_lt PySem.F.entry_tuple_lt (PySem.F.args_tuple_lt_2 _ _) (tuple_lt2 l b x1 x2 y1 y2 t1 t2 u1 u2 _ _ _ _ _ _)
    ⟨(N _ hl).1, (N _ hb).1, show Value.bool (decide (x1 < y1 ∨ (x1 = y1 ∧ x2 < y2))) ≠ Value.notImplemented ∧ Q (.bool (decide (x1 < y1 ∨ (x1 = y1 ∧ x2 < y2)))) s from ⟨(fun x => nomatch x), h⟩⟩ hu
end
end
section
theorem clear_EndC : True := by k_with_none; trivial
open PySem PySem.Calls PySem.W PyProof.Rows PySem.Spec
set_option maxRecDepth 100000
set_option maxHeartbeats 8000000
/-- the end of a turn over a range -/
noncomputable def RngEnd (h₀ : Heap) (L I : Addr) (oI : Obj) (Jn : (Str → Option Value) → List (Addr × Obj) → Prop) (s₁ : Shared) (f : Flow) (s₂ : Shared) : Prop :=
  f = .next ∧ ∃ h' tk m₂ T', s₂ = { s₁ with heap := h', toks := tk } ∧ Fr h₀ L h' m₂ ∧ News h₀ L h' ((I, oI) :: T') ∧ (∀ p ∈ T', p.1 ≠ I) ∧ Jn m₂ T'
theorem RngEnd.intro {h₀ : Heap} {L I : Addr} {oI : Obj} {Jn : (Str → Option Value) → List (Addr × Obj) → Prop} {s₁ : Shared} {h' : Heap} {tk : Nat} {m₂ : Str → Option Value} {T' : List (Addr × Obj)} (F : Fr h₀ L h' m₂) (N : News h₀ L h' ((I, oI) :: T')) (off : ∀ p ∈ T', p.1 ≠ I) (j : Jn m₂ T') :
    RngEnd h₀ L I oI Jn s₁ .next { s₁ with heap := h', toks := tk } := ⟨rfl, h', tk, m₂, T', rfl, F, N, off, j⟩
section
variable {prog : Program} {w : World} {A : Around} {E : Value → Shared → Prop} {s : Shared} {env : Env} {h₀ : Heap} {body : List Stmt} {Q : Flow → Shared → Prop}
/-- a for of a name (a cell or a local) over a range -/
theorem iter_rngT {x : Str} {px : Pos} {r : Addr} {b : Int} {n : Nat} {t u v : Tok} {m₀ : Str → Option Value} {news : List (Addr × Obj)}
    (hh : A.handled = none) (F : Fr h₀ env.locals s.heap m₀) (N : News h₀ env.locals s.heap news) (hr : IsRange s.heap r 0 b 1 t u v) (hsm : Builtin.Range.small 0 b 1 = true) (hn : Builtin.Range.rangeSize 0 b 1 = ((n : Nat) : Int))
    (J : Nat → (Str → Option Value) → List (Addr × Obj) → Prop) (h0 : J 0 m₀ news)
    (step : ∀ (I : Addr) (i : Nat) (tk : Tok) m₁ T s₁ oI, (∀ p ∈ news, @LT.lt Nat _ p.1 I) → i < n → J i m₁ T → (∀ p ∈ T, p.1 ≠ I) → Fr h₀ env.locals s₁.heap m₁ → News h₀ env.locals s₁.heap ((I, oI) :: T) →
      wpAny (model prog w) A (assign (.Name x px) env (.int (i : Int) tk)) (fun _ s₃ => wpAny (model prog w) A (execs body env) (RngEnd h₀ env.locals I oI (J (i + 1)) s₁) E s₃) E s₁)
    (zero : ∀ m₁ T h tk, J n m₁ T → Fr h₀ env.locals h m₁ → News h₀ env.locals h T → Q .next { s with heap := h, toks := tk }) :
    wpAny (model prog w) A (pyIter (.ref r)) (fun it s₂ => LoopAtT prog w A h₀ env (.Name x px) body Q E it s₂) E s := by
  refine wpAny_pyIter_range hr hsm ?_
  have W := LCg.range_walks (prog := prog) (w := w) (A := A) (I := s.heap.objs.size) hh 0 n
  have hnew := next_is_new F
  have hbel : ∀ p ∈ news, @LT.lt Nat _ p.1 s.heap.objs.size := fun p hp => Heap.lt_size (N p hp).1
  refine ⟨_, _, _, n, _, _, m₀, news, J, rfl, W, ?_, ?_, ?_, (by show IsRangeIter _ _ _ _ _; rw [hn]; simpa using Heap.get?_push_size _ rfl), F.push _, (fun p hp => ⟨Heap.get?_push_of_some _ (N p hp).1, (N p hp).2⟩), fun i s' v Q' _ hQ' => wpAny_pure hQ', h0, ?_, ?_⟩
  · intro hmm
    exact absurd F.ns.lt ((List.mem_singleton.mp hmm) ▸ Nat.lt_irrefl _)
  · intro b hb
    rw [List.mem_singleton.mp hb]
    exact hnew
  · intro p hp hI
    exact absurd (hbel p hp) ((List.mem_singleton.mp hI) ▸ Nat.lt_irrefl _)
  · rintro i v m₁ T s₁ own hin ⟨tv, rfl⟩ hJ hoff hsub hget hall hst F₁ N₁
    obtain ⟨oI, hoI⟩ : ∃ o, s₁.heap.get? s.heap.objs.size = some o := ⟨_, hst⟩
    have hmI := hall s.heap.objs.size (List.mem_cons_self ..) hnew _ hoI
    rw [Int.zero_add]
    refine wpAny_mono (step s.heap.objs.size i tv m₁ T s₁ oI hbel hin hJ (fun p hp e => hoff p hp (List.mem_singleton.mpr e)) F₁ (N₁.perm fun p hp => ?_)) (fun _ s₃ h₃ => wpAny_mono h₃ (fun f s₂ p => ?_) fun _ _ e => e) fun _ _ e => e
    · rcases List.mem_cons.mp hp with rfl | hp
      · exact List.mem_append_left _ hmI
      · exact List.mem_append_right _ hp
    · obtain ⟨rfl, h', tk, m₂, T', rfl, F', N', off', hJ'⟩ := p
      refine ⟨rfl, h', tk, m₂, T', rfl, F', fun p hp => ?_, fun p hp hI => off' p hp (List.mem_singleton.mp hI), hJ'⟩
      rcases List.mem_append.mp hp with hp | hp
      · have gp := hget p hp
        have e := List.mem_singleton.mp (hsub p hp)
        rw [e, hoI] at gp
        have : p = (s.heap.objs.size, _) := Prod.ext e (Option.some.inj gp).symm
        rw [this]; exact N' _ List.mem_cons_self
      · exact N' _ (List.mem_cons_of_mem _ hp)
  · rintro h' tk m' T' F' N' _ hJ
    exact zero m' T' h' tk hJ F' N'
end
/-- the last loop -/
noncomputable def JF (m0 : Str → Option Value) (DR lW cW cO : Addr) (oR lw oW : Obj) (rest : List (Addr × Obj)) (_ : Nat) (m : Str → Option Value) (T : List (Addr × Obj)) : Prop :=
  ∃ (oO : Obj) (cv o : Option Value), oO.data = .cell cv ∧ T = (DR, oR) :: (lW, lw) :: (cW, oW) :: (cO, oO) :: rest ∧ m = fun y => if y = Str.ofString "ahead" then o else m0 y
theorem one_self {m0 : Str → Option Value} {a : Str} : ∃ o, m0 = fun y => if y = a then o else m0 y := ⟨m0 a, funext fun y => by split <;> first | rfl | (subst_vars; rfl)⟩
theorem one_again {m0 : Str → Option Value} {a : Str} {o o' : Option Value} : (fun y => if y = a then o' else if y = a then o else m0 y) = fun y => if y = a then o' else m0 y := by
  funext y
  by_cases h : y = a
  · simp only [h, if_true]
  · simp only [if_neg h]
theorem iter_last {prog : Program} {w : World} {A : Around} {E : Value → Shared → Prop} {s : Shared} {env : Env} {h₀ : Heap} {body : List Stmt} {Q : Flow → Shared → Prop} {x : Str} {px : Pos} {r : Addr} {b : Int} {n : Nat} {t u v : Tok} {m₀ : Str → Option Value} {DR lW cW cO : Addr} {oR lw oW oO : Obj} {rest : List (Addr × Obj)} {cv : Option Value}
    (hh : A.handled = none) (F : Fr h₀ env.locals s.heap m₀) (N : News h₀ env.locals s.heap ((DR, oR) :: (lW, lw) :: (cW, oW) :: (cO, oO) :: rest)) (hO : oO.data = .cell cv) (hr : IsRange s.heap r 0 b 1 t u v) (hsm : Builtin.Range.small 0 b 1 = true) (hn : Builtin.Range.rangeSize 0 b 1 = ((n : Nat) : Int))
    (step : ∀ (I : Addr) (i : Nat) (tk : Tok) (oO : Obj) (cv o : Option Value) s₁ oI, (∀ p ∈ ((DR, oR) :: (lW, lw) :: (cW, oW) :: (cO, oO) :: rest), @LT.lt Nat _ p.1 I) → i < n → oO.data = .cell cv → Fr h₀ env.locals s₁.heap (fun y => if y = Str.ofString "ahead" then o else m₀ y) → News h₀ env.locals s₁.heap ((I, oI) :: (DR, oR) :: (lW, lw) :: (cW, oW) :: (cO, oO) :: rest) →
      wpAny (model prog w) A (assign (.Name x px) env (.int (i : Int) tk)) (fun _ s₃ => wpAny (model prog w) A (execs body env) (RngEnd h₀ env.locals I oI (JF m₀ DR lW cW cO oR lw oW rest (i + 1)) s₁) E s₃) E s₁)
    (zero : ∀ (oO : Obj) (cv o : Option Value) h tk, oO.data = .cell cv → Fr h₀ env.locals h (fun y => if y = Str.ofString "ahead" then o else m₀ y) → News h₀ env.locals h ((DR, oR) :: (lW, lw) :: (cW, oW) :: (cO, oO) :: rest) → Q .next { s with heap := h, toks := tk }) :
    wpAny (model prog w) A (pyIter (.ref r)) (fun it s₂ => LoopAtT prog w A h₀ env (.Name x px) body Q E it s₂) E s := by
  obtain ⟨o, e⟩ := one_self (m0 := m₀) (a := Str.ofString "ahead")
  refine iter_rngT hh F N hr hsm hn (JF m₀ DR lW cW cO oR lw oW rest) ⟨oO, cv, o, hO, rfl, e⟩ ?_ ?_
  · rintro I i tk m₁ T s₁ oI hI hi ⟨oO', cv', o', hcv, rfl, rfl⟩ off F1 N1
    refine step I i tk oO' cv' o' s₁ oI (fun p hp => ?_) hi hcv F1 N1
    rcases List.mem_cons.mp hp with rfl | hp
    · exact hI (DR, oR) List.mem_cons_self
    · rcases List.mem_cons.mp hp with rfl | hp
      · exact hI (lW, lw) (List.mem_cons_of_mem _ List.mem_cons_self)
      · rcases List.mem_cons.mp hp with rfl | hp
        · exact hI (cW, oW) (List.mem_cons_of_mem _ (List.mem_cons_of_mem _ List.mem_cons_self))
        · rcases List.mem_cons.mp hp with rfl | hp
          · exact hI (cO, oO) (List.mem_cons_of_mem _ (List.mem_cons_of_mem _ (List.mem_cons_of_mem _ List.mem_cons_self)))
          · exact hI p (List.mem_cons_of_mem _ (List.mem_cons_of_mem _ (List.mem_cons_of_mem _ (List.mem_cons_of_mem _ hp))))
  · rintro m₁ T h tk ⟨oO', cv', o', hcv, rfl, rfl⟩ F1 N1
    exact zero oO' cv' o' h tk hcv F1 N1
theorem law_end {cl : Str → Option Addr} {mean : ExcName → Option Value} {ws : List Int} {s₁ s' : Shared} {L : Addr} {m : Str → Option Value} (F : Fr s₁.heap L s'.heap m) (hg : s'.gens = #[]) (hos : s'.os = s₁.os) :
    GoodW PySem.Challenge.rw_mq0203_02.row.claim cl mean [ofPy (.list (ws.map .int))] s₁ (.ok (.ret (.bool true))) s' := by
  refine goodW_bool F hg (raisesW_false ?_) ?_ hos
  · wrow_none_raised
  · kc_post
theorem lam_grown {pos : Pos} {qual : Str} {tab : Obj} {T news : List (Addr × Obj)} {P : Addr} {h₀ h : Heap} {L : Addr} (ht : LamTab pos qual tab T) (N : News h₀ L h news) (hm : (P, tab) ∈ news) : GrownAt P h := by
  rcases ht with e | ⟨_, _, _, _, _, _, _, e⟩
  · rw [e] at hm; exact GrownAt.of N hm
  · rw [e] at hm; exact GrownAt.of N hm
theorem ints_at : ∀ {vs : List Value} {ns : List Int} {i : Nat} {n : Int}, IntsAre vs ns → ns[i]? = some n → ∃ t, vs[i]? = some (.int n t)
  | _, _, i, n, .nil, h => by rw [List.getElem?_nil] at h; exact nomatch h
  | _, _, 0, n, .cons a t _, h => ⟨t, by rw [← Option.some.inj h]; rfl⟩
  | _, _, i + 1, n, .cons _ _ hs, h => by
    rw [List.getElem?_cons_succ] at h
    obtain ⟨t, e⟩ := ints_at hs h
    exact ⟨t, by rw [List.getElem?_cons_succ]; exact e⟩
theorem w_at {S : Int} {tl : List (Int × Tok)} {wv : List Value} (h : IntsAre wv (tl.map fun q => wgt S q.1)) {k : Nat} (hk : k < tl.length) : ∃ t, wv.toArray[k]? = some (.int (wAt S (tl.map (·.1)) k) t) := by
  obtain ⟨t, e⟩ := ints_at h (i := k) (n := wAt S (tl.map (·.1)) k) (by
    unfold wAt
    rw [List.getElem?_map, List.getElem?_eq_getElem hk]
    simp [List.getD, hk])
  exact ⟨t, by rw [List.getElem?_toArray]; exact e⟩
noncomputable abbrev ahd (S : Int) (ns : List Int) (one o : Nat) : Bool := decide (wAt S ns o < wAt S ns one ∨ (wAt S ns o = wAt S ns one ∧ o < one))
/-- what stands ahead, among the first -/
noncomputable def JA (S : Int) (ns : List Int) (one : Nat) (l : List (Addr × Obj)) (i : Nat) (ys : List Value) (news : List (Addr × Obj)) : Prop := news = l ∧ ys.length = ((List.range i).filter (ahd S ns one)).length
theorem ja_nil {S : Int} {ns : List Int} {one : Nat} {l : List (Addr × Obj)} : JA S ns one l 0 [] l := ⟨rfl, rfl⟩
theorem ja_yes {S : Int} {ns : List Int} {one i : Nat} {l : List (Addr × Obj)} {ys : List Value} {y : Value} (h : ys.length = ((List.range i).filter (ahd S ns one)).length) (hp : ahd S ns one i = true) : JA S ns one l (i + 1) (ys ++ [y]) l := by
  refine ⟨rfl, ?_⟩
  rw [List.range_succ, List.filter_append, List.length_append, List.length_append, h, List.filter_cons_of_pos hp]
  rfl
theorem ja_no {S : Int} {ns : List Int} {one i : Nat} {l : List (Addr × Obj)} {ys : List Value} (h : ys.length = ((List.range i).filter (ahd S ns one)).length) (hp : ahd S ns one i = false) : JA S ns one l (i + 1) ys l := by
  refine ⟨rfl, ?_⟩
  rw [List.range_succ, List.filter_append, List.length_append, h, List.filter_cons_of_neg (by rw [hp]; exact Bool.false_ne_true)]
  rfl
theorem len63 {ys : List Value} (h : ys.length < 64) : ((ys.toArray.size : Nat) : Int) < 2 ^ 63 := by rw [List.size_toArray]; omega
end
section
theorem clear_Law2 : True := by k_with_none; trivial
open PySem PySem.Calls PySem.W PyProof.Rows PySem.Spec
set_option maxRecDepth 100000
set_option maxHeartbeats 0
theorem fillL : True := by
  have h2 : (hd.heap_1 = hd.heap_1 ∧ PySem.Challenge.rw_mq0203_02 = PySem.Challenge.rw_mq0203_02) → True := fun _ => trivial
  apply h2
  k_fill
  exact ⟨rfl, rfl⟩
set_option pp.deepTerms false
set_option pp.deepTerms.threshold 6
theorem line_Law2_1 : True := by
  k_with "call ref!" => (k_here; (show wpAny _ _ (call (Value.ref 56) _) _ _ _); k_dflt (refine' c_numbers ?B ?F ?X ?N ?T ?hk ?hd ?hu ?hL ?hI ?h63 ?_; (case B => k_asm); (case F => k_asm); (case X => k_asm); (case N => k_asm); (case T => k_asm); (case hk => rfl); (case hd => ktr_room); (case hu => ktr_units); (case hL => assumption); (case hI => assumption); (case h63 => omega)); intro xs0 ws0 c0 D0 h0 tk0 hI0 hl0 F0 N0 lN; (try simp only [List.forall_mem_cons] at lN); (try k_sweep))
  trivial
theorem line_Law2_2 : True := by
  k_with "eval ListComp!" => (k_here; k_dflt (refine LCg.ListComp_U (F₀ := by k_asm) (by with_unfolding_all rfl) (by decide) (by rfl) (by decide) (by rfl) ?_))
  trivial
theorem line_Law2_3 : True := by
  k_with "exec Assign cons ListComp!" => (walk_at "exec Assign")
  trivial
theorem line_Law2_4 : True := by
  k_with "CompSrc!" => (refine stp ?_)
  trivial
theorem line_Law2_5 : True := by
  k_with "CompEnd!" => (refine stp ?_)
  trivial
theorem line_Law2_6 : True := by
  k_with "call ref!" => (k_here; (show wpAny _ _ (call (Value.ref 70) _) _ _ _); k_dflt (refine' c_map ?B ?F ?X ?N ?mL hgs ?T ?hk (Nat.le_of_eq hl5) hok ?hd ?hu ?_; (case B => k_asm); (case F => k_asm); (case X => k_asm); (case N => k_asm); (case T => k_asm); (case hk => rfl); (case hd => ktr_room); (case hu => ktr_units); (case mL => k_mem)); intro Dm t1m t2m hm tkm Fm Nm lm; (try k_lt lm))
  trivial
theorem line_Law2_7 : True := by
  k_with "exec For Name Subscript cons nil!" => (k_here; (with_unfolding_all refine' For_invVF ?kF ?k1 ?k2 ?_; (case kF => k_asm); (case k1 => exact rfl); (case k2 => exact rfl); k_whole))
  trivial
theorem line_Law2_8 : True := by
  k_with "pyIter ref!" => (refine stp ?_)
  trivial
theorem div_fl {prog : Program} {w : World} {A : Around} {E : Value → Shared → Prop} {s : Shared} {Q : Value → Shared → Prop} {n d : Int} {k : Nat} {t u : Tok} (hn : @LT.lt Nat _ n.natAbs (2 ^ 53)) (hd : d = 2 ^ k) (hk : k ≤ 1000) (h : Q (.float (fl n k) s.toks) { s with toks := s.toks + 1 }) : wpAny (model prog w) A (binaryOp .Div (.int n t) (.int d u)) Q E s := by
  have e := div_k hn hk hd
  refine AutoIntOps.truediv_2 ?_ ?_ ?_
  · have : (0 : Int) < 2 ^ k := Int.pow_pos (by decide)
    rw [beq_iff_eq]; omega
  · rw [e, fl_isInf hn hk]; exact Bool.false_ne_true
  · rw [e]; exact h
theorem line_Law2_9 : True := by
  k_with "binaryOp Div int int!" => (k_here; (with_reducible show wpAny _ _ (binaryOp _ (Value.int _ _) (Value.int 16 _)) _ _ _); k_dflt (refine div_fl (k := 4) ?_ rfl (by decide) ?_); first | exact nn b1 (Int.lt_trans b2 (by decide)))
  trivial
theorem line_Law2_10 : True := by
  k_with "binaryOp Div int int!" => (k_here; (with_reducible show wpAny _ _ (binaryOp _ (Value.int _ _) (Value.int 8 _)) _ _ _); k_dflt (refine div_fl (k := 3) ?_ rfl (by decide) ?_); first | exact nn b3 (Int.lt_of_le_of_lt b4 (by decide)) | exact nn b5 (Int.lt_of_le_of_lt b6 (by decide)))
  trivial
theorem line_Law2_11 : True := by
  k_with "call ref!" => (k_here; (show wpAny _ _ (call (Value.ref 35) _) _ _ _); k_dflt (refine' c_col ?B ?F ?X ?N ?T ?hk ?px ?py ?pz ?hd ?hu b1 b2 b3 b4 b5 b6 ?_; (case B => k_asm); (case F => k_asm); (case X => k_asm); (case N => k_asm); (case T => k_asm); (case hk => rfl); (case px => first | with_reducible assumption | exact Nat.succ_pos _); (case py => first | with_reducible assumption | exact Nat.succ_pos _); (case pz => first | with_reducible assumption | exact Nat.succ_pos _); (case hd => ktr_room); (case hu => ktr_units)); intro cA hA tkA eA0 eA1 eA2 FA NA lA)
  trivial
theorem line_Law2_12 : True := by
  k_with "call ref!" => (k_here; (show wpAny _ _ (call (Value.ref 75) _) _ _ _); refine stp ?_)
  trivial
theorem line_Law2_13 : True := by
  k_with "call ref!" => (k_here; (show wpAny _ _ (call (Value.ref 82) _) _ _ _); k_dflt (refine' c_due0 ?B ?F ?X ?N ?T ?hk b1 b2 b3 b4 b5 b6 z1 z2 z3 z4 ?hd ?hu ?_; (case B => k_asm); (case F => k_asm); (case X => k_asm); (case N => k_asm); (case T => k_asm); (case hk => rfl); (case hd => ktr_room); (case hu => ktr_units)); intro Du U0 U1 U2 U3 U4 vt vb p0 p1 p2 ta tb tc y1 y2 y3 hU tkU x0 x1 x2 hvt hvb pa pb pc py1 py2 py3 oU0 oU1 oU2 oU3 oU4 oU5 FU NU)
  trivial
theorem line_Law2_14 : True := by
  k_with "compareOp NotEq ref ref!" => (refine stp ?_)
  trivial
theorem line_Law2_15 : True := by
  k_with "call builtin:list.append!" => (k_here; (with_reducible show wpAny _ _ (call (Value.builtin _) [Value.ref _, _]) _ _ _); k_dflt (refine' append_K ?k1 ?k2 ?k3 ?_ ?z; (case k1 => k_asm); (case k2 => k_asm); (case k3 => k_upd); (case z => assumption); k_whole); intro _ _ _; (try k_sweep))
  trivial
local macro_rules | `(tactic| k_ne) => `(tactic| k_extra "k_ne!")
theorem lyne_Law2_1 : True := by
  k_with "k_ne!" => (refine neN ?_; (try dsimp only); first | with_reducible assumption | exact Ne.symm (by with_reducible assumption))
  trivial
theorem lyne_Law2_2 : True := by
  k_with "k_all!" => with_reducible assumption
  trivial
theorem line_Law2_16 : True := by
  k_with "eval Lambda!" => (refine stop_mk mkR ?_)
  trivial
theorem line_Law2_17 : True := by
  k_with "call ref!" => (refine stop_mk mkT ?_)
  trivial
theorem line_Law2_18 : True := by
  k_with "call builtin:sorted!" => (refine stop_mk mkS ?_)
  trivial
noncomputable def MkU : Prop := True
theorem line_Law2_24 : True := by
  k_with "exec For Name Call cons nil!" => (k_here; (rename Fr _ _ _ _ => lF'); refine For_invTF lF' ?_ (by intro _; rfl))
  trivial
theorem line_Law2_19 : True := by
  k_with "subscriptTail!" => (k_here; (have mkU' := mkU); k_dflt (refine' sub_nat ?N ?m ?hi ?x ?_ ?s; (case N => k_asm); (case m => k_mem); (case hi => with_reducible assumption); (case x => with_reducible assumption); (case s => with_unfolding_all rfl)))
  trivial
theorem line_Law2_20 : True := by
  k_with "CompSrcT!" => (refine stp ?_)
  trivial
theorem line_Law2_21 : True := by
  k_with "RngEnd!" => (refine stp ?_)
  trivial
theorem line_Law2_22 : True := by
  k_with "compareOp Lt ref ref!" => (refine stp ?_)
  trivial
theorem line_Law2_23 : True := by
  k_with "call builtin:len!" => (refine stp ?_)
  trivial
theorem wpAny_frz {α : Type} {M : Model} {A : Around} {t : Sem α} {Q : α → Shared → Prop} {E : Value → Shared → Prop} {s : Shared} (h : ∀ (K : α → Shared → Prop), (∀ v s', Q v s' → K v s') → wpAny M A t K (fun _ _ => False) s) : wpAny M A t Q E s := wpAny_mono (h Q fun _ _ q => q) (fun _ _ q => q) fun _ _ e => e.elim
/-- the greys read so far -/
noncomputable def JG (l : List (Addr × Obj)) (i : Nat) (ys : List Value) (news : List (Addr × Obj)) : Prop := news = l ∧ ∃ gs : List Int, IntsAre ys gs ∧ gs.length = i ∧ ∀ g ∈ gs, 0 ≤ g ∧ g ≤ 9
theorem jg_next {l : List (Addr × Obj)} {i : Nat} {ys : List Value} {gs : List Int} {g : Int} {t : Tok} (h : IntsAre ys gs) (hl : gs.length = i) (ha : ∀ g ∈ gs, 0 ≤ g ∧ g ≤ 9) (g0 : 0 ≤ g) (g9 : g ≤ 9) : JG l (i + 1) (ys ++ [.int g t]) l :=
  ⟨rfl, gs ++ [g], ints_snocT h, by rw [List.length_append, hl]; rfl, fun x hx => by
    rcases List.mem_append.mp hx with hx | hx
    · exact ha x hx
    · rw [List.mem_singleton.mp hx]; exact ⟨g0, g9⟩⟩
theorem law2 : PySem.Challenge.rw_mq0203_02.Holds := by
  refine hd ?_
  k_go0
  refine wpAny_frz ?_
  intro KQ hKQ
  k_steps
  rename_i wL wO wW eL eO eW X0 XK TK BK cH1 cH2 l00 h1 D2 ws h2 F2 N2 hI2 hC2 hL2 l2
  unfold Stp
  refine LCg.CompSrc.ledger (by rfl) F2 N2 List.mem_cons_self (by rw [List.size_toArray, hI2.length, sizeLine_eq]; omega) (fun g => ?_)
  refine comp_rest (n := ws.toArray.size) (JG _) ?step ?fin _ 0 [] _ (Nat.zero_add _) ⟨rfl, [], .nil, rfl, fun _ h => nomatch h⟩
  case step =>
    rintro i ys nw v I oI C oC D m₂ h tk E' hi ⟨rfl, gs, hgs, hlen, hok⟩ hv hC hx F8 N8 off8 ne8
    obtain ⟨n, t, rfl⟩ := ints_mem hI2 v (by rw [List.getElem?_toArray] at hv; exact List.mem_of_getElem? hv)
    clear F2 N2
    k_steps
    · exact LCg.CompEnd.intro (by k_asm) (by k_asm) _ (fun p hp => hp) off8 (.inr ⟨_, List.mem_cons_self, rfl, _, rfl⟩) (jg_next hgs hlen hok (Int.fmod_nonneg_of_pos _ (by decide)) (Int.le_of_lt (Int.fmod_lt_of_pos _ (by decide))))
    · exact LCg.CompEnd.intro (by k_asm) (by k_asm) _ (fun p hp => hp) off8 (.inr ⟨_, List.mem_cons_self, rfl, _, rfl⟩) (jg_next hgs hlen hok (by decide) (by decide))
  case fin =>
    rintro ys nw ⟨rfl, gs, hgs, hlen, hok⟩
    have hl5 : gs.length = 5 := by rw [hlen, List.size_toArray, hI2.length, List.length_drop, hl0]
    clear F2 N2
    have z1 := (map_bound (gs := gs)).1
    have z2 := (map_bound (gs := gs)).2
    have z34 := map_bound2 hok
    rw [hl5] at z34
    have z3 : -10000 ≤ (mapB gs).2 := by omega
    have z4 : (mapB gs).2 ≤ 10000 := by omega
    clear z34
    k_steps
    rename_i DG hg1 tkg oG hx1 hx2 hx3 tkx lL gA lLo gB oL dL gC lW gD lWo gE oW dW D5 nums h5 F5 N5 hI5 hC5 hL5 l5
    unfold Stp
    have N6 := N5.perm (news' := [(lL, listOf ([] : List Value).toArray 0), (lW, listOf ([] : List Value).toArray 0), (72, tabObj #[]), (_, oL), (_, oW), (DG, LCg.lst ys), (D5, listOf nums.toArray 0), (Dm, _), (D2, _), (D0, _), (_, wO), (37, tabObj #[]), (84, tabObj #[])]) (by lcg_sub)
    have dLW : @Ne Nat lL lW := by omega
    have dL7 : @Ne Nat lL 72 := by omega
    have dW7 : @Ne Nat lW 72 := by omega
    have dLc : @Ne Nat lL _ := Nat.ne_of_gt lLo.2.2.2.2.1
    have dLw : @Ne Nat lL _ := Nat.ne_of_gt lLo.2.2.2.2.2.2.1
    have dLG : @Ne Nat lL DG := by omega
    have dWc : @Ne Nat lW _ := Nat.ne_of_gt lWo.2.2.2.2.2.1
    have dWw : @Ne Nat lW _ := Nat.ne_of_gt lWo.2.2.2.2.2.2.2.1
    have dWG : @Ne Nat lW DG := by omega
    have d7c : @Ne Nat 72 (_ + 1 + 1 + 1) := Nat.ne_of_lt (Nat.lt_trans (Nat.lt_trans (Nat.lt_trans l00.1 (Nat.lt_succ_self _)) (Nat.lt_succ_self _)) (Nat.lt_succ_self _))
    have d7w : @Ne Nat 72 (_ + 1) := Nat.ne_of_lt (Nat.lt_trans l00.1 (Nat.lt_succ_self _))
    have d7G : @Ne Nat 72 DG := oG.2.2.2.2.2.1
    clear N5
    have tL : ∀ p ∈ [(D5, listOf nums.toArray 0), (Dm, ({ cls := .type "tuple", data := .seq #[.int (mapB gs).1 t1m, .int (mapB gs).2 t2m] } : Obj)), (D2, listOf ws.toArray 0), (D0, listOf ws0.toArray c0), (_, wO), (37, tabObj #[]), (84, tabObj #[])], p.1 ≠ lL :=
      List.forall_mem_cons.mpr ⟨Nat.ne_of_gt l5.2.1, List.forall_mem_cons.mpr ⟨Nat.ne_of_lt lLo.1, List.forall_mem_cons.mpr ⟨Nat.ne_of_lt lLo.2.2.1, List.forall_mem_cons.mpr ⟨Nat.ne_of_lt lLo.2.2.2.1, List.forall_mem_cons.mpr ⟨Nat.ne_of_lt lLo.2.2.2.2.2.1, List.forall_mem_cons.mpr ⟨Nat.ne_of_lt lLo.2.2.2.2.2.2.2.2.1, List.forall_mem_cons.mpr ⟨Nat.ne_of_lt lLo.2.2.2.2.2.2.2.2.2, fun _ h => nomatch h⟩⟩⟩⟩⟩⟩⟩
    have tW : ∀ p ∈ [(D5, listOf nums.toArray 0), (Dm, ({ cls := .type "tuple", data := .seq #[.int (mapB gs).1 t1m, .int (mapB gs).2 t2m] } : Obj)), (D2, listOf ws.toArray 0), (D0, listOf ws0.toArray c0), (_, wO), (37, tabObj #[]), (84, tabObj #[])], p.1 ≠ lW :=
      List.forall_mem_cons.mpr ⟨Nat.ne_of_gt l5.1, List.forall_mem_cons.mpr ⟨Nat.ne_of_lt lWo.2.1, List.forall_mem_cons.mpr ⟨Nat.ne_of_lt lWo.2.2.2.1, List.forall_mem_cons.mpr ⟨Nat.ne_of_lt lWo.2.2.2.2.1, List.forall_mem_cons.mpr ⟨Nat.ne_of_lt lWo.2.2.2.2.2.2.1, List.forall_mem_cons.mpr ⟨Nat.ne_of_lt lWo.2.2.2.2.2.2.2.2.2.1, List.forall_mem_cons.mpr ⟨Nat.ne_of_lt lWo.2.2.2.2.2.2.2.2.2.2, fun _ h => nomatch h⟩⟩⟩⟩⟩⟩⟩
    have t7 : ∀ p ∈ [(D5, listOf nums.toArray 0), (Dm, ({ cls := .type "tuple", data := .seq #[.int (mapB gs).1 t1m, .int (mapB gs).2 t2m] } : Obj)), (D2, listOf ws.toArray 0), (D0, listOf ws0.toArray c0), (_, wO), (37, tabObj #[]), (84, tabObj #[])], p.1 ≠ 72 :=
      List.forall_mem_cons.mpr ⟨Nat.ne_of_gt l5.2.2.2.2.2.2.2.2.2.1, List.forall_mem_cons.mpr ⟨Nat.ne_of_gt lm.2.2.2.2.2.2.1, List.forall_mem_cons.mpr ⟨Nat.ne_of_gt l2.2.2.2.2.1, List.forall_mem_cons.mpr ⟨Ne.symm lN.2.2.2.1, List.forall_mem_cons.mpr ⟨Nat.ne_of_gt (Nat.lt_trans (Nat.lt_trans l00.1 (Nat.lt_succ_self _)) (Nat.lt_succ_self _)), List.forall_mem_cons.mpr ⟨(by decide : (37 : Nat) ≠ 72), List.forall_mem_cons.mpr ⟨(by decide : (84 : Nat) ≠ 72), fun _ h => nomatch h⟩⟩⟩⟩⟩⟩⟩
    refine iter_listUnr (by rfl) F5 N6 (by k_mem) rfl rfl ?_
    intro I hI
    refine list_rest (JW I _ lL lW _ _ DG oL oW (LCg.lst ys) gs (xs0.take 5) [(D5, listOf nums.toArray 0), (Dm, _), (D2, _), (D0, _), (_, wO), (37, tabObj #[]), (84, tabObj #[])]) ?step ?zero _ _ _ (jw_start hI5)
    case step =>
      intro v0 r m1 n1 j it h1 tk1 hc F6 N7
      obtain ⟨td, tl, wv, k1, k2, tab, X, o1, o2, o3, o4, o5, e1, e2, e3, e4, e5, e6, rfl, rfl⟩ := j
      cases e1 with
      | cons n tn e1 =>
      have b1 : 0 ≤ Int.fmod n 16 := Int.fmod_nonneg_of_pos _ (by decide)
      have b2 : Int.fmod n 16 < 16 := Int.fmod_lt_of_pos _ (by decide)
      have b3 : 0 ≤ Int.fmod (Int.fdiv n 16) 9 := Int.fmod_nonneg_of_pos _ (by decide)
      have b4 : Int.fmod (Int.fdiv n 16) 9 ≤ 8 := Int.le_of_lt_add_one (Int.fmod_lt_of_pos _ (by decide))
      have b5 : 0 ≤ Int.fmod (Int.fdiv n 144) 9 := Int.fmod_nonneg_of_pos _ (by decide)
      have b6 : Int.fmod (Int.fdiv n 144) 9 ≤ 8 := Int.le_of_lt_add_one (Int.fmod_lt_of_pos _ (by decide))
      dsimp only at F6
      clear N6 F5
      k_steps
      unfold Stp
      have hIX : ∀ e ∈ X, @Ne Nat e.1 I := fun e he => (e6 e he).1
      have pre := plain_pre b1 b2 b3 b4 b5 b6 hok (Nat.le_of_eq hl5)
      rw [← eA0, ← eA1, ← eA2] at pre
      obtain ⟨H0, H1, H2, H3⟩ := pre
      generalize hT9 : X ++ _ = T9 at NA lA
      have fL : ∀ p ∈ T9, p.1 ≠ lL := hT9 ▸ fun p hp => by
        rcases List.mem_append.mp hp with hp | hp
        · exact Nat.ne_of_gt (e6 p hp).2.1
        · exact tL p hp
      have fW : ∀ p ∈ T9, p.1 ≠ lW := hT9 ▸ fun p hp => by
        rcases List.mem_append.mp hp with hp | hp
        · exact Nat.ne_of_gt (e6 p hp).2.2.1
        · exact tW p hp
      have f7 : ∀ p ∈ T9, p.1 ≠ 72 := hT9 ▸ fun p hp => by
        rcases List.mem_append.mp hp with hp | hp
        · exact Nat.ne_of_gt (e6 p hp).2.2.2.1
        · exact t7 p hp
      have NB := NA.perm (news' := (72, tab) :: cA.o :: (I, it) :: (lL, _) :: (lW, _) :: (_, oL) :: (_, oW) :: (DG, _) :: T9) (by ((repeat (refine List.forall_mem_cons.mpr ⟨by k_mem, ?_⟩)); intro q hq; repeat (first | exact hq | apply List.mem_cons_of_mem)))
      k_dflt (refine' c_told (TT := X) (C0 := cA) (gs := gs) cH1 ?off e5 ?sub ?B FA ?X NB ?mL hgs List.mem_cons_self hok (Nat.le_of_eq hl5) H0 H1 H2 H3 ?T ?hk ?hd ?hu ?_)
      case B => k_asm
      case X => k_asm
      case T => k_asm
      case hk => rfl
      case hd => ktr_room
      case hu => ktr_units
      case mL => k_mem
      case sub => intro q hq; subst hT9; exact List.mem_cons_of_mem _ (List.mem_cons_of_mem _ (List.mem_cons_of_mem _ (List.mem_cons_of_mem _ (List.mem_cons_of_mem _ (List.mem_cons_of_mem _ (List.mem_cons_of_mem _ (List.mem_append_left _ hq)))))))
      case off =>
        refine List.forall_mem_cons.mpr ⟨?_, List.forall_mem_cons.mpr ⟨?_, List.forall_mem_cons.mpr ⟨dL7, List.forall_mem_cons.mpr ⟨dW7, List.forall_mem_cons.mpr ⟨Ne.symm d7c, List.forall_mem_cons.mpr ⟨Ne.symm d7w, List.forall_mem_cons.mpr ⟨Ne.symm d7G, f7⟩⟩⟩⟩⟩⟩⟩
        · exact Nat.ne_of_gt (lA (72, tab) (by k_mem))
        · exact Nat.ne_of_gt (hI (72, _) (by k_mem))
      intro D T1 T2 T3 T4 c' oc wsx tt C1 l0 ha la sa hb sb vb2 hc' lc sc tlx u1 u2 u3 u4 u5 u6 h9 tk9 F9 N9 dd1 dd2 hcc oD oT pl g1 g2 g3 g4 g5 g6 ex ey ez e0 q1 q2 q3
      have N10 := N9.perm (news' := (D, _) :: (T4, _) :: (T2, _) :: (T1, _) :: (T3, _) :: C1.o :: (c', oc) :: (72, lamTab posL c') :: (I, it) :: (lL, _) :: (lW, _) :: (_, oL) :: (_, oW) :: (DG, _) :: T9) (by ((repeat (refine List.forall_mem_cons.mpr ⟨by k_mem, ?_⟩)); intro q hq; repeat (first | exact hq | apply List.mem_cons_of_mem)))
      clear N9 NA NB FA
      k_steps
      unfold Stp
      have al := plain_eq b1 b2 b3 b4 b5 b6 hok (Nat.le_of_eq hl5) (ex.trans (by rw [eA0])) (ey.trans (by rw [eA1])) (ez.trans (by rw [eA2])) (e0.trans (by rw [eA0, eA1, eA2])) q1 q2 q3 x0 x1 x2 hvt hvb
      refine ne_told al NU (none_booked FU (by k_asm)) ?hu (by k_mem) (by k_mem) (by k_mem) (by k_mem) (by k_mem) (by k_mem) (by k_mem) (by k_mem) (by k_mem) (by k_mem) (by k_mem) (by k_mem) pl g1 g2 g3 g4 g5 g6 C1.pu C1.pv C1.pw pa pb pc py1 py2 py3 ?_
      case hu => ktr_units
      have N11 := NU.perm (news' := (D, _) :: (T1, _) :: (I, it) :: (lL, _) :: (lW, _) :: (72, lamTab posL c') :: (_, oL) :: (_, oW) :: (DG, _) :: (c', oc) :: T9) (by ((repeat (refine List.forall_mem_cons.mpr ⟨by k_mem, ?_⟩)); intro q hq; repeat (first | exact hq | apply List.mem_cons_of_mem)))
      have e7 := jw_far e6 hcc (Nat.lt_succ_of_lt l00.1) (o1 := it) (by k_mem) (o2 := listOf (tl.map (lightV gs)).toArray k1) (by k_mem) (o3 := listOf wv.toArray k2) (by k_mem) (o4 := oL) (by k_mem) (o5 := oW) (by k_mem) (o6 := LCg.lst ys) (by k_mem) (fun q hq => List.mem_cons_of_mem _ (List.mem_cons_of_mem _ (List.mem_cons_of_mem _ (List.mem_cons_of_mem _ (List.mem_cons_of_mem _ (List.mem_cons_of_mem _ (List.mem_cons_of_mem _ (hT9 ▸ List.mem_append_right _ hq))))))))
      have hcI := e7 _ List.mem_cons_self
      have nDL : @Ne Nat D lL := Nat.ne_of_gt (oD (lL, _) (by k_mem))
      have nDW : @Ne Nat D lW := Nat.ne_of_gt (oD (lW, _) (by k_mem))
      have nTL : @Ne Nat T1 lL := Nat.ne_of_gt (oT (lL, _) (by k_mem))
      have nTW : @Ne Nat T1 lW := Nat.ne_of_gt (oT (lW, _) (by k_mem))
      have nIL : @Ne Nat I lL := Nat.ne_of_gt (hI (lL, _) (by k_mem))
      have nIW : @Ne Nat I lW := Nat.ne_of_gt (hI (lW, _) (by k_mem))
      have n7I : @Ne Nat 72 I := Nat.ne_of_lt (hI (72, tabObj #[]) (by k_mem))
      have ncL : @Ne Nat c' lL := Nat.ne_of_gt hcI.2.1
      have ncW : @Ne Nat c' lW := Nat.ne_of_gt hcI.2.2.1
      have szA : (tl.map (lightV gs)).toArray.size ≤ sizeLine := by
        have := congrArg List.length e2
        rw [List.length_append, List.length_map, List.length_take] at this
        rw [List.size_toArray, List.length_map, sizeLine_eq]; omega
      have szB : wv.toArray.size ≤ sizeLine := by
        have := congrArg List.length e2
        rw [List.length_append, List.length_map, List.length_take] at this
        rw [List.size_toArray, e4.length, List.length_map, sizeLine_eq]; omega
      have elg : la = lgt gs n := al.el1
      generalize hA1 : (tl.map (lightV gs)).toArray = AL at N11 szA
      generalize hB1 : wv.toArray = AW at N11 szB
      (try clear N10)
      (try clear F9)
      clear NU hvt hvb al q1 q2 q3 hcc oD oT oU0 oU1 oU2 oU3 oU4 oU5
      k_steps
      all_goals
        rename_i F12 N12
        subst hT9
        refine unr_end F12 (N12.perm (news' := (I, it) :: (lL, _) :: (lW, _) :: (72, _) :: (_, oL) :: (_, oW) :: (DG, _) :: (c', oc) :: (X ++ _)) (by ((repeat (refine List.forall_mem_cons.mpr ⟨by k_mem, ?_⟩)); intro q hq; repeat (first | exact hq | apply List.mem_cons_of_mem)))) ?off ⟨List.mem_cons_of_mem _ (List.mem_cons_of_mem _ (List.mem_cons_of_mem _ (List.mem_cons_of_mem _ (List.mem_cons_of_mem _ (List.mem_cons_of_mem _ (List.mem_cons_of_mem _ (List.mem_append_right _ List.mem_cons_self))))))), jw_next e1 e2 e3 e4 g2 elg ?hw hA1 hB1 e7 dd1 dd2⟩
        case hw => first | (unfold wgt; rw [if_pos (by with_reducible assumption)]) | (unfold wgt; rw [if_neg (by with_reducible assumption)])
        case off =>
          refine List.forall_mem_cons.mpr ⟨Ne.symm nIL, List.forall_mem_cons.mpr ⟨Ne.symm nIW, List.forall_mem_cons.mpr ⟨n7I, List.forall_mem_cons.mpr ⟨Nat.ne_of_lt (hI (_, oL) (by k_mem)), List.forall_mem_cons.mpr ⟨Nat.ne_of_lt (hI (_, oW) (by k_mem)), List.forall_mem_cons.mpr ⟨Nat.ne_of_lt (hI (DG, _) (by k_mem)), List.forall_mem_cons.mpr ⟨hcI.1, ?_⟩⟩⟩⟩⟩⟩⟩
          intro p hp
          rcases List.mem_append.mp hp with hp | hp
          · exact hIX p hp
          · exact Nat.ne_of_lt (hI p (List.mem_cons_of_mem _ (List.mem_cons_of_mem _ (List.mem_cons_of_mem _ (List.mem_cons_of_mem _ (List.mem_cons_of_mem _ (List.mem_cons_of_mem _ hp)))))))
    case zero =>
      intro m1 n1 j h1 tk1 F6 N7
      obtain ⟨td, tl, wv, k1, k2, tab, X, o1, o2, o3, o4, o5, e1, e2, e3, e4, e5, e6, rfl, rfl⟩ := j
      cases e1
      rw [List.append_nil] at e2
      have N8 := N7.perm (news' := [(lL, listOf (tl.map (lightV gs)).toArray k1), (lW, listOf wv.toArray k2), (72, tab), (_, oL), (_, oW), (_, wO), (37, tabObj #[]), (84, tabObj #[])]) (by
        refine List.forall_mem_cons.mpr ⟨by k_mem, List.forall_mem_cons.mpr ⟨by k_mem, List.forall_mem_cons.mpr ⟨by k_mem, List.forall_mem_cons.mpr ⟨by k_mem, List.forall_mem_cons.mpr ⟨by k_mem, ?_⟩⟩⟩⟩⟩
        intro q hq
        refine List.mem_cons_of_mem _ (List.mem_cons_of_mem _ (List.mem_cons_of_mem _ (List.mem_cons_of_mem _ (List.mem_cons_of_mem _ (List.mem_cons_of_mem _ (List.mem_append_right _ ?_))))))
        exact List.mem_cons_of_mem _ (List.mem_cons_of_mem _ (List.mem_cons_of_mem _ (List.mem_cons_of_mem _ hq))))
      clear N6 F5 N7
      dsimp only at F6
      have mkR : MkR := trivial
      k_steps
      rename_i F6 N8 gR tkR tr ur vr hR FR NR kpR
      clear mkR
      unfold Stp
      obtain ⟨oR, NR2, lR, hR2⟩ := rng_news F6 N8 NR rfl hR
      k_lt lR
      clear NR F6 N8 kpR
      have mkT : MkT := trivial
      k_steps
      rename_i f' c' oc' vs' tq ct g24 tk24 F24 N24 dc1 dc2 lc lf
      clear mkT
      unfold Stp
      obtain ⟨news0, hn1, hn2⟩ := norm37 N24
      k_dflt (refine' c_key (news0 := news0) (f := f') ?hT ?B F24 ?X N24 ?T ?hk ?hd ?hu hn1 ?_)
      case hT => k_mem
      case B => k_asm
      case X => k_asm
      case T => k_asm
      case hk => rfl
      case hd => ktr_room
      case hu => ktr_units
      intro K kd L1 oc g25 tk25 F25 N25 kM dOc hps
      obtain ⟨T5, N26, hm5, mkd, moc⟩ := key_norm N25 hn2
      have n37 : @LT.lt Nat _ 37 _ := l00.2.1
      have q1 := hm5 (lL, _) (by k_mem) (by dsimp only; omega)
      have q2 := hm5 (lW, _) (by k_mem) (by dsimp only; omega)
      have q3 := hm5 (f', _) (by k_mem) (by dsimp only; omega)
      have q4 := hm5 (c', oc') (by k_mem) (by dsimp only; omega)
      have q5 := hm5 (_, oL) (by k_mem) (by dsimp only; omega)
      have q6 := hm5 (_, oW) (by k_mem) (by dsimp only; omega)
      have q7 := hm5 (_, wO) (by k_mem) (by dsimp only; omega)
      have q8 := hm5 (_, oR) (by k_mem) (by dsimp only; omega)
      have q9 := hm5 (72, tab) (by k_mem) (show @Ne Nat 72 37 by decide)
      have q10 := hm5 (84, _) (by k_mem) (show @Ne Nat 84 37 by decide)
      obtain ⟨ps, hps⟩ := hps
      have q11 := mkd _ hps
      clear hm5 hn1 hn2 N25 N24 F24 lc
      have hl5t : tl.length = 5 := by
        have := congrArg List.length e2
        rw [List.length_map, List.length_take, hl0] at this
        omega
      have mkS : MkS := trivial
      k_steps
      clear mkS
      unfold Stp
      obtain ⟨ww, eww⟩ := (show ∀ {w : World} {L1 K : Addr} {ds : List (Addr × Obj)}, KMade w.params L1 K ds → ∃ w' : World, w' = w from fun {w} {_} {_} {_} _ => ⟨w, rfl⟩) kM
      have hcall : ∀ (i j : Nat) (t u : Tok), i < 5 → j < 5 → CallK ww 4 40 (.ref f') [.int i t, .int j u] (fun l => ∀ q ∈ T5, q ∈ l) (fun x fresh => ∃ y t, x = .float y t ∧ (Float64.cmpInt y 0 == some Ordering.lt) = decide (wgt (mapB gs).1 ((tl.map (·.1)).getD i 0) < wgt (mapB gs).1 ((tl.map (·.1)).getD j 0))) := by
        intro i j ti tj hi hj
        have hxi : (tl.map (lightV gs)).toArray[i]? = some (lightV gs (tl[i]'(by omega))) := by simp [show i < tl.length by omega]
        have hxj : (tl.map (lightV gs)).toArray[j]? = some (lightV gs (tl[j]'(by omega))) := by simp [show j < tl.length by omega]
        have hi64 : i < 64 := by omega
        have hj64 : j < 64 := by omega
        have ei : (tl.map (·.1)).getD i 0 = (tl[i]'(by omega)).1 := by simp [List.getD, show i < tl.length by omega]
        have ej : (tl.map (·.1)).getD j 0 = (tl[j]'(by omega)).1 := by simp [List.getD, show j < tl.length by omega]
        rw [ei, ej]
        generalize tl[i] = qi at hxi
        generalize tl[j] = qj at hxj
        intro p loose mean mg mb dp un gd cn cs a ccd cl outer A₀ base h₀ L m l s Q E B F X N T' hk hdp hun hs hret
        have N1 := headN N (hs _ q1)
        have N2 := headN N1 (List.mem_cons_of_mem _ (hs _ q5))
        have N3 := headN N2 (List.mem_cons_of_mem _ (List.mem_cons_of_mem _ (hs _ q4)))
        have N4 := headN N3 (List.mem_cons_of_mem _ (List.mem_cons_of_mem _ (List.mem_cons_of_mem _ (hs _ q3))))
        clear q1 q2 q3 q4 q5 q6 q7 q8 q9 q10 q11 N N1 N2 N3
        generalize hAL : (tl.map (lightV gs)).toArray = AL at N4 hxi hxj
        have mkU : MkU := trivial
        refine wpAny_call ?_
        (refine' kla_code ?k1 ?k2 ?k3 ?k4 ?k5 ?kA ?kF ?kK ?k6 ?k7 ?k8 ?k9 ?kB ?_ ?c2 ?c3 ?c4 ?c5; (case kA => exact rfl); (case kF => exact rfl); (case kK => assumption); (case k1 => k_asm); (case k2 => k_asm); (case k3 => k_asm); (case k4 => k_asm); (case k5 => k_asm); (case k6 => k_mem); (case k7 => exact codeRec_news (by k_asm) (by k_mem) (by assumption) (by assumption)); (case k8 => ktr_room); (case k9 => exact rfl); (case c5 => decide); (case kB => exact locs rfl); (case c2 => exact rfl); (case c3 => exact rfl); (case c4 => exact rfl); k_whole; intro g' L' h' FG' F' N' B' X' T'; (try dsimp only); (try k_lift B'); (try k_fold))
        k_steps
        refine hret _ [] _ _ (by k_asm) (News.perm (by k_asm) ?_) (fun _ _ _ h => nomatch h) ⟨_, _, rfl, light_lt hok (Nat.le_of_eq hl5)⟩
        intro q hq
        repeat' first | exact hq | apply List.mem_cons_of_mem
      rw [eww] at hcall
      clear eww
      k_dflt (refine' sort_keyR (n := 5) (r := fun i => wAt (mapB gs).1 (tl.map (·.1)) i) F25 N26 ?hl ?hsm ?hn ?h2 ?h64 kM mkd moc dOc ?hfn ?hc ?B ?X ?T ?hk ?hdp ?hun ?hd1 ?hu1 ?_)
      case hc => exact hcall
      case hl => exact hR2 _ (N26 _ q8).1
      case hsm => decide +kernel
      case hn => decide +kernel
      case h2 => decide
      case h64 => decide
      case hfn => intro g h L m l N F X hs; exact FnAt.of N (hs _ q3)
      case B => k_asm
      case X => k_asm
      case T => k_asm
      case hk => exact rfl
      case hdp => ktr_room
      case hun => ktr_units
      case hd1 => (first | decide | (simp only [depth_caller]; decide) | (simp only [depth_deeper, depth_caller]; omega))
      case hu1 => ktr_units
      intro vs5 DR h30 tk30 cR hvs F30 N30 lR30
      obtain ⟨vR, eR, hrow⟩ := row_of (S := (mapB gs).1) (ns := tl.map (·.1)) hvs
      rw [eR] at N30
      have lDO : @LT.lt Nat _ (_ + 1 + 1) DR := lR30 _ q7
      have lDW : @LT.lt Nat _ lW DR := lR30 _ q2
      have N31 := N30.perm (news' := [(DR, listOf vR.toArray cR), (lW, listOf wv.toArray k2), (_, oW), (_, wO), (72, tab), (37, tabObj ps), (84, _)]) (List.forall_mem_cons.mpr ⟨List.mem_cons_self, List.forall_mem_cons.mpr ⟨List.mem_cons_of_mem _ q2, List.forall_mem_cons.mpr ⟨List.mem_cons_of_mem _ q6, List.forall_mem_cons.mpr ⟨List.mem_cons_of_mem _ q7, List.forall_mem_cons.mpr ⟨List.mem_cons_of_mem _ q9, List.forall_mem_cons.mpr ⟨List.mem_cons_of_mem _ q11, List.forall_mem_cons.mpr ⟨List.mem_cons_of_mem _ q10, fun _ h => nomatch h⟩⟩⟩⟩⟩⟩⟩)
      clear N30 q1 q2 q3 q4 q5 q6 q7 q8 q9 q10 q11 hcall kM mkd moc dOc hps N26 F25 eR
      have lWO : @LT.lt Nat _ (_ + 1 + 1) lW := lWo.2.2.2.2.2.2.1
      clear lLo lWo l5 lm l2 lN oG tL tW t7 dLW dL7 dW7 dLc dLw dLG dWc dWw dWG d7c d7w d7G hI5 hC5 hL5 e6 hC2 hL2 hI lR hR2 NR2 FR hR lR30 hvs
      k_steps
      rename_i g33 tk33 t33 u33 v33 hR33 F33 N33 kp33
      unfold Stp
      refine iter_last (n := 5) (by rfl) F33 N33 eO hR33 (by decide +kernel) (by decide +kernel) ?step ?zero
      case step =>
        intro I2 i ti oO cv o s₁' oI hI2 hi hcv F34 N34
        clear N33 F33 hR33 kp33
        k_lt hI2
        k_steps
        rename_i gO oO2 FO NO dO gr tkr tr2 ur2 vr2 hRc FRc NRc kpc
        unfold Stp
        refine LCt.CompSrcT.range (n := 5) (by rfl) FRc NRc hRc (by decide +kernel) (by decide +kernel) (Nat.le_of_ble_eq_true rfl) (fun g => ?_)
        refine comp_restT (n := 5) (JA (mapB gs).1 (tl.map (·.1)) i _) ?st ?fi _ 0 [] _ (Nat.zero_add _) ja_nil
        case st =>
          rintro k ys nw v I oI C oC D m₂ h tk E' hk ⟨rfl, hlen⟩ ⟨tv, rfl⟩ hC hx F8 N8 off8 ne8
          rw [Int.zero_add] at hx
          obtain ⟨tw1, hw1⟩ := w_at e4 (k := k) (hl5t.symm ▸ hk)
          obtain ⟨tw2, hw2⟩ := w_at e4 (k := i) (hl5t.symm ▸ hi)
          have hk64 : k < 64 := Nat.lt_trans hk (by decide)
          have hi64 : i < 64 := Nat.lt_trans hi (by decide)
          clear NO FO hRc FRc NRc kpc
          generalize hWL : wv.toArray = WL at N8 hw1 hw2
          have mkU : MkU := trivial
          k_steps
          unfold Stp
          rename_i D6 g6 l6 D7 g7 F7 N7 l7
          refine lt_tups N7 (by k_mem) (by k_mem) ?u ?_
          case u => ktr_units
          k_steps
          · rename_i hp9
            unfold Stp
            exact LCg.CompEnd.intro F7 N7 _ (fun p hp => List.mem_cons_of_mem _ (List.mem_cons_of_mem _ hp)) off8 trivial (ja_yes hlen (decide_eq_true (hp9.imp id fun q => ⟨q.1, Int.ofNat_lt.mp q.2⟩)))
          · rename_i hp9
            unfold Stp
            exact LCg.CompEnd.intro F7 N7 _ (fun p hp => List.mem_cons_of_mem _ (List.mem_cons_of_mem _ hp)) off8 trivial (ja_no hlen (decide_eq_false fun q => hp9 (q.imp id fun r => ⟨r.1, Int.ofNat_lt.mpr r.2⟩)))
        case fi =>
          rintro ys nw ⟨rfl, hlen⟩
          obtain ⟨t9, hx9⟩ := hrow i hi
          have hxr : vR.toArray[ys.length]? = some (.int (i : Int) t9) := by rw [hlen, List.getElem?_toArray]; exact hx9
          have hy64 : ys.length < 64 := by
            rw [hlen]
            exact Nat.lt_of_le_of_lt (List.length_filter_le _ _) (by rw [List.length_range]; decide)
          clear NO FO hRc FRc NRc kpc
          generalize hRL : vR.toArray = RL at hxr
          have mkU : MkU := trivial
          k_steps
          unfold Stp
          rename_i D6 g6 tk6 F6 N6 l6
          refine call_len_list (items := ys.toArray) ⟨_, (N6 _ List.mem_cons_self).1, rfl, _, rfl⟩ (len63 hy64) ?_
          rw [show ys.toArray.size = ys.length from rfl]
          dsimp only
          k_steps
          all_goals first
            | exact absurd rfl (by with_reducible assumption)
            | (unfold Stp
               subst hRL
               refine RngEnd.intro F6 ?rb ?rc ⟨oO2, _, _, dO, rfl, one_again⟩
               case rb => exact N6.perm fun p hp => List.mem_cons_of_mem _ hp
               case rc => exact List.forall_mem_cons.mpr ⟨Nat.ne_of_lt hI2.1, List.forall_mem_cons.mpr ⟨Nat.ne_of_lt hI2.2.1, List.forall_mem_cons.mpr ⟨Nat.ne_of_lt hI2.2.2.1, List.forall_mem_cons.mpr ⟨Nat.ne_of_lt hI2.2.2.2.1, List.forall_mem_cons.mpr ⟨Nat.ne_of_lt hI2.2.2.2.2.1, List.forall_mem_cons.mpr ⟨Nat.ne_of_lt hI2.2.2.2.2.2.1, List.forall_mem_cons.mpr ⟨Nat.ne_of_lt hI2.2.2.2.2.2.2, fun _ h => nomatch h⟩⟩⟩⟩⟩⟩⟩)
      case zero =>
        intro oO cv o h tk' hcv F34 N34
        clear N33 F33 hR33 kp33
        k_steps
        rename Shared.gens _ = #[] => hgE
        exact hKQ _ _ ⟨law_end F34 hgE rfl, lam_grown e5 N34 (by k_mem), GrownAt.of N34 (by k_mem), GrownAt.of N34 (by k_mem), trivial⟩
end
end Mine
end
theorem PySem.Challenge.cw_mq0203_02_holds : PySem.Challenge.rw_mq0203_02.Holds := by
  exact Mine.law2
