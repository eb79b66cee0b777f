import PyProof.Rows.All
import Wide.All
import OpenK.AllK
import Wide.FinOn
import PySem.Challenge.RW_bb6041_01
open PySem PySem.W PyProof.Rows
set_option Elab.async false
set_option maxRecDepth 100000
set_option maxHeartbeats 8000000
namespace Mine
section
section
set_option maxRecDepth 10000
set_option exponentiation.threshold 3000
open PySem.Float64 PySem.Flt

def Bd (x : UInt64) (k : Nat) : Prop := (∃ a m e, decode x = .fin a m e) ∧ (val x).natAbs ≤ 2 ^ (k + 1074)

theorem Bd.fin {x : UInt64} {k : Nat} (h : Bd x k) : isFinite x = true := by
  obtain ⟨⟨a, m, e, h⟩, _⟩ := h
  unfold isFinite; rw [h]
theorem Bd.mono {x : UInt64} {i j : Nat} (h : Bd x i) (hij : i ≤ j) : Bd x j :=
  ⟨h.1, Nat.le_trans h.2 (Nat.pow_le_pow_right (by decide) (by omega))⟩

theorem V_pow (k : Nat) : V ((k + 1023) * 2 ^ 52) = 2 ^ (k + 1074) := by
  have h := V_at (k := k + 1022) (q := 2 ^ 52) (by omega) (.inl (Nat.le_refl _))
  rw [← Nat.pow_add] at h
  have e1 : (k + 1022) * 2 ^ 52 + 2 ^ 52 = (k + 1023) * 2 ^ 52 := by omega
  have e2 : 52 + (k + 1022) = k + 1074 := by omega
  rw [e1, e2] at h
  exact h

theorem right_bd {r : UInt64} {neg : Bool} {W D k : Nat} (h : Right r neg W D) (hD : 0 < D) (hk : k ≤ 1000) (hW : W ≤ D * 2 ^ (k + 1074)) : Bd r k := by
  obtain ⟨t, rfl, hle, hov, hn⟩ := h
  have hlt : t < infMag := by
    refine Nat.lt_of_le_of_ne hle fun e => ?_
    have h1 := hov.mp e
    have h2 : 2 * W ≤ D * 2 ^ (k + 1075) := by
      have : 2 ^ (k + 1075) = 2 ^ (k + 1074) * 2 := by rw [← Nat.pow_succ]
      rw [this, ← Nat.mul_assoc]; omega
    have h3 : 2 ^ (k + 1075) ≤ 2 ^ 2075 := Nat.pow_le_pow_right (by decide) (by omega)
    have h4 : D * 2 ^ (k + 1075) ≤ D * 2 ^ 2075 := Nat.mul_le_mul_left D h3
    have h5 : (2 : Nat) ^ 2075 < (2 ^ 54 - 1) * 2 ^ 2045 := by
      have : (2 : Nat) ^ 2075 = 2 ^ 30 * 2 ^ 2045 := by rw [← Nat.pow_add]
      rw [this]
      exact Nat.mul_lt_mul_of_pos_right (by decide) (Nat.two_pow_pos _)
    have h6 : D * 2 ^ 2075 < D * ((2 ^ 54 - 1) * 2 ^ 2045) := Nat.mul_lt_mul_of_pos_left h5 hD
    exact absurd (Nat.lt_of_le_of_lt (Nat.le_trans h2 h4) h6) (Nat.not_lt.mpr h1)
  obtain ⟨m, e, hd, hv⟩ := decode_pack neg hlt
  refine ⟨⟨neg, m, e, hd⟩, ?_⟩
  rw [val_natAbs hd, hv]
  rcases Nat.lt_or_ge ((k + 1023) * 2 ^ 52) t with hlt2 | hge
  · exfalso
    have h1 := V_lt hlt2
    rw [V_pow] at h1
    have h2 := (hn hlt ((k + 1023) * 2 ^ 52)).1
    rw [V_pow] at h2
    have h3 : D * 2 ^ (k + 1074) < D * V t := Nat.mul_lt_mul_of_pos_left h1 hD
    unfold dist at h2
    omega
  · have := V_mono hge
    rw [V_pow] at this
    exact this

theorem zero_bd (a : Bool) (k : Nat) : Bd (zero a) k := by
  obtain ⟨m, e, hd, hv⟩ := decode_pack a (t := 0) (by decide)
  refine ⟨⟨a, m, e, hd⟩, ?_⟩
  show (val (pack a 0)).natAbs ≤ _
  rw [val_natAbs hd, hv, V_zero]
  exact Nat.zero_le _

theorem pow_aux {I J M : Nat} (h1 : I ≤ M) (h2 : J ≤ M) : 2 ^ I + 2 ^ J ≤ 1 * 2 ^ (M + 1) := by
  have h3 : 2 ^ I ≤ 2 ^ M := Nat.pow_le_pow_right (by decide) h1
  have h4 : 2 ^ J ≤ 2 ^ M := Nat.pow_le_pow_right (by decide) h2
  rw [Nat.pow_succ, Nat.one_mul, Nat.mul_two]
  exact Nat.add_le_add h3 h4
theorem pow_max (i j : Nat) : 2 ^ (i + 1074) + 2 ^ (j + 1074) ≤ 1 * 2 ^ (max i j + 1 + 1074) := by
  have e : max i j + 1 + 1074 = (max i j + 1074) + 1 := by omega
  rw [e]
  exact pow_aux (by omega) (by omega)

theorem add_bd {x y : UInt64} {i j : Nat} (hx : Bd x i) (hy : Bd y j) (hk : max i j + 1 ≤ 1000) : Bd (add x y) (max i j + 1) := by
  obtain ⟨⟨a, m, e, dx⟩, bx⟩ := hx
  obtain ⟨⟨b, n, f, dy⟩, by'⟩ := hy
  have h := add_right dx dy
  by_cases h0 : val x + val y = 0
  · rw [h.1 h0]; exact zero_bd _ _
  · refine right_bd (h.2 h0) (by decide) hk ?_
    have := pow_max i j
    omega
theorem sub_bd {x y : UInt64} {i j : Nat} (hx : Bd x i) (hy : Bd y j) (hk : max i j + 1 ≤ 1000) : Bd (sub x y) (max i j + 1) := by
  obtain ⟨⟨a, m, e, dx⟩, bx⟩ := hx
  obtain ⟨⟨b, n, f, dy⟩, by'⟩ := hy
  have h := sub_right dx dy
  by_cases h0 : val x - val y = 0
  · rw [h.1 h0]; exact zero_bd _ _
  · refine right_bd (h.2 h0) (by decide) hk ?_
    have := pow_max i j
    omega
theorem mul_bd {x y : UInt64} {i j : Nat} (hx : Bd x i) (hy : Bd y j) (hk : i + j ≤ 1000) : Bd (mul x y) (i + j) := by
  obtain ⟨⟨a, m, e, dx⟩, bx⟩ := hx
  obtain ⟨⟨b, n, f, dy⟩, by'⟩ := hy
  refine right_bd (mul_right dx dy) (Nat.two_pow_pos _) hk ?_
  have h := Nat.mul_le_mul bx by'
  rw [← Nat.pow_add] at h
  rw [← Nat.pow_add]
  have e : i + 1074 + (j + 1074) = 1074 + (i + j + 1074) := by omega
  rw [e] at h
  exact h

/-- at least one, away from nought -/
def Ge1 (y : UInt64) : Prop := (∃ a m e, decode y = .fin a m e ∧ m ≠ 0) ∧ 2 ^ 1074 ≤ (val y).natAbs

theorem div_bd {x y : UInt64} {i : Nat} (hx : Bd x i) (hy : Ge1 y) (hk : i ≤ 1000) : Bd (div x y) i := by
  obtain ⟨⟨a, m, e, dx⟩, bx⟩ := hx
  obtain ⟨⟨b, n, f, dy, hn⟩, gy⟩ := hy
  refine right_bd (div_right dx dy hn) (Nat.lt_of_lt_of_le (Nat.two_pow_pos _) gy) hk ?_
  rw [Nat.mul_comm]
  exact Nat.mul_le_mul gy bx

theorem ofInt_bd {n : Int} {k : Nat} (h : n.natAbs ≤ 2 ^ k) (hk : k ≤ 1000) : Bd (ofInt n) k := by
  refine right_bd (ofInt_right n) (by decide) hk ?_
  rw [Nat.one_mul, Nat.pow_add]
  exact Nat.mul_le_mul_right _ h
theorem ofFrac_bd {s : Bool} {n d : Nat} {k : Nat} (hd : 0 < d) (h : n ≤ 2 ^ k) (hk : k ≤ 1000) : Bd (ofFrac s n d) k := by
  refine right_bd (ofFrac_right (W := n * 2 ^ 1074) (D := d) hd rfl hd) hd hk ?_
  rw [Nat.pow_add]
  calc n * 2 ^ 1074 ≤ 2 ^ k * 2 ^ 1074 := Nat.mul_le_mul_right _ h
    _ = 1 * (2 ^ k * 2 ^ 1074) := by rw [Nat.one_mul]
    _ ≤ d * (2 ^ k * 2 ^ 1074) := Nat.mul_le_mul_right _ hd

theorem over_no {n : Int} {k : Nat} (h : n.natAbs ≤ 2 ^ k) (hk : k ≤ 1000) : ¬ Over n := by
  intro ho
  have ho' : 2 ^ 1024 - 2 ^ 970 ≤ n.natAbs := ho
  have h1 : (2 : Nat) ^ k ≤ 2 ^ 1000 := Nat.pow_le_pow_right (by decide) hk
  have h2 : (2 : Nat) ^ 1000 < 2 ^ 1024 - 2 ^ 970 := by decide +kernel
  exact absurd (Nat.lt_of_le_of_lt (Nat.le_trans h h1) h2) (Nat.not_lt.mpr ho')

theorem ge_aux {t t' n P : Nat} (hV : V t' = P) (hn : dist (n * P) (1 * V t) ≤ dist (n * P) (1 * V t')) (h : 1 ≤ n) : P ≤ V t := by
  rcases Nat.lt_or_ge t t' with hlt | hge
  · exfalso
    have h1 := V_lt hlt
    rw [hV] at h1 hn
    have h3 : 1 * P ≤ n * P := Nat.mul_le_mul_right _ h
    unfold dist at hn
    generalize n * P = Q at *
    omega
  · rw [← hV]; exact V_mono hge
theorem V_one : V (1023 * 2 ^ 52) = 2 ^ 1074 := V_pow 0
theorem two1074 : 0 < 2 ^ 1074 := Nat.two_pow_pos _
theorem t1 (n : Int) : isFinite (pack (decide (n < 0)) infMag) = false := by cases decide (n < 0) <;> decide +kernel
theorem t2 {n : Int} {t : Nat} (hlt : t < infMag) (ht : ofInt n = pack (decide (n < 0)) t) : (val (ofInt n)).natAbs = V t := by
  obtain ⟨m', e', hd', hv'⟩ := decode_pack (decide (n < 0)) hlt
  rw [ht, val_natAbs hd', hv']
theorem t3 {n : Int} (hn1 : 1 ≤ n.natAbs) {t : Nat} (hlt : t < infMag) (hn : t < infMag → ∀ (t' : Nat), dist (n.natAbs * 2 ^ 1074) (1 * V t) ≤ dist (n.natAbs * 2 ^ 1074) (1 * V t') ∧ (V t' ≠ V t → dist (n.natAbs * 2 ^ 1074) (1 * V t) = dist (n.natAbs * 2 ^ 1074) (1 * V t') → t % 2 = 0)) : 2 ^ 1074 ≤ V t :=
  ge_aux V_one (hn hlt _).1 hn1
theorem t4 {n : Int} {a : Bool} {m : Nat} {e : Int} {t : Nat} (hd : decode (ofInt n) = .fin a m e) (ht : ofInt n = pack (decide (n < 0)) t) (hle : t ≤ infMag) : t < infMag := by
  refine Nat.lt_of_le_of_ne hle fun e' => ?_
  have hf := t1 n
  rw [← e', ← ht] at hf
  unfold isFinite at hf
  rw [hd] at hf
  cases hf
theorem t5 {n : Int} {a : Bool} {m : Nat} {e : Int} {P : Nat} (hP : 0 < P) (hd : decode (ofInt n) = .fin a m e) (h : P ≤ (val (ofInt n)).natAbs) : m ≠ 0 := by
  intro hm
  rw [val_natAbs hd, hm, Nat.zero_mul] at h
  omega
theorem ofInt_ge1 {n : Int} {k : Nat} (h0 : n ≠ 0) (h : n.natAbs ≤ 2 ^ k) (hk : k ≤ 1000) : Ge1 (ofInt n) := by
  have hn1 : 1 ≤ n.natAbs := Nat.pos_of_ne_zero fun e => h0 (Int.natAbs_eq_zero.mp e)
  obtain ⟨⟨a, m, e, hd⟩, _⟩ := ofInt_bd h hk
  obtain ⟨t, ht, hle, hov, hn⟩ := ofInt_right n
  have hlt := t4 hd ht hle
  have hv := t2 hlt ht
  have h1 := t3 hn1 hlt hn
  rw [← hv] at h1
  exact ⟨⟨a, m, e, hd, t5 two1074 hd h1⟩, h1⟩

theorem ofBin_bd {s : Bool} {m k : Nat} {e : Int} (he : -1074 ≤ e) (h : m * 2 ^ (e + 1074).toNat ≤ 2 ^ (k + 1074)) (hk : k ≤ 1000) : Bd (ofBin s m e) k := by
  have hp : 0 < (shift m 1 e).2 := shift_pos _ _ _ (by decide)
  have h1 := shift_one m e 1074 (by omega)
  have e0 : (e + ((1074 : Nat) : Int)).toNat = (e + 1074).toNat := rfl
  rw [e0] at h1
  unfold ofBin
  refine right_bd (ofFrac_right (W := m * 2 ^ (e + 1074).toNat) (D := 1) hp ?_ (by decide)) (by decide) hk (by omega)
  rw [Nat.mul_one]; exact h1

theorem fmod_bd {x y : UInt64} {j : Nat} (hx : ∃ k, Bd x k) (hy : Bd y j) (h0 : isZero y = false) (hk : j ≤ 1000) : Bd (fmod x y) j := by
  obtain ⟨_, ⟨a, m, e, dx⟩, _⟩ := hx
  obtain ⟨⟨b, n, f, dy⟩, by'⟩ := hy
  have he := decode_ge dx
  have hf := decode_ge dy
  have hn : n ≠ 0 := by
    intro hn
    unfold isZero at h0
    rw [dy, hn] at h0
    cases h0
  unfold fmod
  rw [dx, dy]
  simp only
  rw [if_neg (by simpa using hn)]
  unfold align
  simp only
  rw [val_natAbs dy] at by'
  refine ofBin_bd (by omega) ?_ hk
  refine Nat.le_trans ?_ by'
  have e1 : (sgn false (n * 2 ^ (f - min e f).toNat)).toNat = n * 2 ^ (f - min e f).toNat := by unfold sgn; simp only [Bool.false_eq_true, if_false]; exact Int.toNat_natCast _
  rw [e1]
  have hpos : 0 < n * 2 ^ (f - min e f).toNat := Nat.mul_pos (by omega) (Nat.two_pow_pos _)
  have h1 := Nat.le_of_lt (Nat.mod_lt (sgn false (m * 2 ^ (e - min e f).toNat)).toNat hpos)
  have h2 := Nat.mul_le_mul_right (2 ^ (min e f + 1074).toNat) h1
  refine Nat.le_trans h2 ?_
  rw [Nat.mul_assoc, ← Nat.pow_add]
  have e2 : (f - min e f).toNat + (min e f + 1074).toNat = (f + 1074).toNat := by omega
  rw [e2]
  exact Nat.le_refl _

theorem copyzero_bd (y : UInt64) (k : Nat) : Bd (copysign (zero false) y) k := by
  have h : isNaN (zero false) = false := by decide +kernel
  have e : (zero false).toNat % 2 ^ 63 = 0 := by decide +kernel
  unfold copysign
  rw [h, e]
  exact zero_bd _ k

theorem mod_bd {x y : UInt64} {j : Nat} (hx : ∃ k, Bd x k) (hy : Bd y j) (h0 : isZero y = false) (hk : j + 1 ≤ 1000) : Bd (divmod x y).2 (j + 1) := by
  have hm := fmod_bd hx hy h0 (by omega)
  unfold divmod
  simp only
  split
  · exact copyzero_bd _ _
  · split
    · have h := add_bd hm hy (by omega)
      rw [Nat.max_self] at h
      exact h
    · exact hm.mono (by omega)

theorem floor_bd {x : UInt64} {k : Nat} (h : Bd x k) : (toInt Float64.floorOf x).natAbs ≤ 2 ^ k := by
  obtain ⟨⟨a, m, e, dx⟩, bx⟩ := h
  have he := decode_ge dx
  rw [toInt_fin dx]
  rw [val_natAbs dx] at bx
  unfold floorOf
  split
  · rename_i h
    have e1 : (e + 1074).toNat = e.toNat + 1074 := by omega
    rw [e1, Nat.pow_add, ← Nat.mul_assoc, Nat.pow_add] at bx
    have bx' := Nat.le_of_mul_le_mul_right bx (Nat.two_pow_pos 1074)
    rw [Int.natAbs_mul, sgn_natAbs, Int.natAbs_pow]
    exact bx'
  · rename_i h
    have hq : m ≤ 2 ^ k * 2 ^ (-e).toNat := by
      have e1 : k + 1074 = (k + (-e).toNat) + (e + 1074).toNat := by omega
      rw [e1, Nat.pow_add] at bx
      have := Nat.le_of_mul_le_mul_right bx (Nat.two_pow_pos _)
      rw [Nat.pow_add] at this
      exact this
    have hD : (0 : Int) < 2 ^ (-e).toNat := by
      have : (0 : Int) < ((2 ^ (-e).toNat : Nat) : Int) := Int.ofNat_lt.mpr (Nat.two_pow_pos _)
      simpa using this
    have hq' : (m : Int) ≤ 2 ^ k * 2 ^ (-e).toNat := by exact_mod_cast hq
    have h1 : -(2 ^ k) ≤ (sgn a m).fdiv (2 ^ (-e).toNat) := by
      rw [Int.fdiv_eq_ediv_of_nonneg _ (Int.le_of_lt hD)]
      rw [Int.le_ediv_iff_mul_le hD, Int.neg_mul]
      unfold sgn; split <;> omega
    have h2 : (sgn a m).fdiv (2 ^ (-e).toNat) ≤ 2 ^ k := by
      rw [Int.fdiv_eq_ediv_of_nonneg _ (Int.le_of_lt hD)]
      refine Int.ediv_le_of_le_mul hD ?_
      unfold sgn; split <;> omega
    have e3 : ((2 ^ k : Nat) : Int) = (2 : Int) ^ k := by simp
    omega

theorem trunc_bd {x : UInt64} {k : Nat} (h : Bd x k) : (toInt Float64.truncOf x).natAbs ≤ 2 ^ k := by
  have h' := h
  obtain ⟨⟨a, m, e, dx⟩, bx⟩ := h
  rw [toInt_fin dx]
  have hn : Bd (neg x) k := by
    refine ⟨⟨_, _, _, neg_decode dx⟩, ?_⟩
    rw [neg_val dx, Int.natAbs_neg]; exact bx
  have h1 := floor_bd h'
  have h2 := floor_bd hn
  rw [toInt_fin dx] at h1
  rw [toInt_fin (neg_decode dx)] at h2
  unfold truncOf ceilOf
  cases a
  · exact h1
  · simp only [if_true]
    rw [Int.natAbs_neg]; exact h2

theorem lit_bd {x : UInt64} {k : Nat} (h : (isFinite x && decide ((val x).natAbs ≤ 2 ^ (k + 1074))) = true) : Bd x k := by
  rw [Bool.and_eq_true] at h
  refine ⟨?_, of_decide_eq_true h.2⟩
  rcases hx : decode x with _ | a | ⟨a, m, e⟩
  · unfold isFinite at h; rw [hx] at h; cases h.1
  · unfold isFinite at h; rw [hx] at h; cases h.1
  · exact ⟨_, _, _, rfl⟩
theorem lit_ge1 {x : UInt64} (h : (isFinite x && (!isZero x) && decide (2 ^ 1074 ≤ (val x).natAbs)) = true) : Ge1 x := by
  rw [Bool.and_eq_true, Bool.and_eq_true] at h
  refine ⟨?_, of_decide_eq_true h.2⟩
  rcases hx : decode x with _ | a | ⟨a, m, e⟩
  · unfold isFinite at h; rw [hx] at h; cases h.1.1
  · unfold isFinite at h; rw [hx] at h; cases h.1.1
  · refine ⟨_, _, _, rfl, fun hm => ?_⟩
    unfold isZero at h; rw [hx, hm] at h; cases h.1.2
end
end
section
section
set_option maxRecDepth 10000
set_option exponentiation.threshold 3000
open PySem.Flt
variable {prog : Program} {w : World} {A : Around} {E : Value → Shared → Prop} {s : Shared} {Q : Value → Shared → Prop} {a b : UInt64} {n : Int} {t u : Tok} {i j : Nat}

abbrev QF (Q : Value → Shared → Prop) (s : Shared) (k : Nat) : Prop := ∀ z, Bd z k → Q (.float z s.toks) { s with toks := s.toks + 1 }
abbrev In2 (n : Int) (k : Nat) : Prop := -(2 ^ k : Int) ≤ n ∧ n ≤ (2 ^ k : Int)
abbrev QI (Q : Value → Shared → Prop) (s : Shared) (k : Nat) : Prop := ∀ z : Int, -(2 ^ k : Int) ≤ z → z ≤ (2 ^ k : Int) → Q (.int z s.toks) { s with toks := s.toks + 1 }
theorem in2_abs {n : Int} {k : Nat} (h : In2 n k) : n.natAbs ≤ 2 ^ k := by
  obtain ⟨h1, h2⟩ := h
  have e : ((2 ^ k : Nat) : Int) = (2 : Int) ^ k := by simp
  generalize (2 : Int) ^ k = P at *
  omega
theorem abs_lo {n : Int} {k : Nat} (h : n.natAbs ≤ 2 ^ k) : -(2 ^ k : Int) ≤ n := by
  have e : ((2 ^ k : Nat) : Int) = (2 : Int) ^ k := by simp
  generalize (2 : Int) ^ k = P at *
  omega
theorem abs_hi {n : Int} {k : Nat} (h : n.natAbs ≤ 2 ^ k) : n ≤ (2 ^ k : Int) := by
  have e : ((2 ^ k : Nat) : Int) = (2 : Int) ^ k := by simp
  generalize (2 : Int) ^ k = P at *
  omega

theorem big_lt {k : Nat} (h : n.natAbs ≤ 2 ^ k) (hk : k ≤ 1000) : ¬ (2 ^ 1024 - 2 ^ 970 ≤ n.natAbs) := over_no h hk

theorem w_add_ff (ha : Bd a i) (hb : Bd b j) (hk : max i j + 1 ≤ 1000) (h : QF Q s (max i j + 1)) : wpAny (model prog w) A (binaryOp .Add (.float a t) (.float b u)) Q E s :=
  add_float (h _ (add_bd ha hb hk))
theorem w_iadd_ff (ha : Bd a i) (hb : Bd b j) (hk : max i j + 1 ≤ 1000) (h : QF Q s (max i j + 1)) : wpAny (model prog w) A (inplaceOp .Add (.float a t) (.float b u)) Q E s :=
  iadd_float (h _ (add_bd ha hb hk))
theorem w_sub_ff (ha : Bd a i) (hb : Bd b j) (hk : max i j + 1 ≤ 1000) (h : QF Q s (max i j + 1)) : wpAny (model prog w) A (binaryOp .Sub (.float a t) (.float b u)) Q E s :=
  sub_float (h _ (sub_bd ha hb hk))
theorem w_div_ff (hA : A.handled = none) (ha : Bd a i) (hb : Ge1 b) (hk : i ≤ 1000) (h : QF Q s i) : wpAny (model prog w) A (binaryOp .Div (.float a t) (.float b u)) Q E s :=
  truediv_float_or hA (fun hz => by
    obtain ⟨⟨_, m, _, hd, hm⟩, _⟩ := hb
    unfold Float64.isZero at hz
    rw [hd] at hz
    cases m with
    | zero => exact absurd rfl hm
    | succ m => cases hz) fun _ => h _ (div_bd ha hb hk)
theorem w_add_fi (hA : A.handled = none) (ha : Bd a i) (hn' : In2 n j) (hk : max i j + 1 ≤ 1000) (h : QF Q s (max i j + 1)) : wpAny (model prog w) A (binaryOp .Add (.float a t) (.int n u)) Q E s :=
  add_fi_sharp hA (fun hb => absurd hb (big_lt (in2_abs hn') (by omega))) fun _ => h _ (add_bd ha (ofInt_bd (in2_abs hn') (by omega)) hk)
theorem w_add_if (hA : A.handled = none) (ha : Bd a i) (hn' : In2 n j) (hk : max j i + 1 ≤ 1000) (h : QF Q s (max j i + 1)) : wpAny (model prog w) A (binaryOp .Add (.int n u) (.float a t)) Q E s :=
  add_if_sharp hA (fun hb => absurd hb (big_lt (in2_abs hn') (by omega))) fun _ => h _ (add_bd (ofInt_bd (in2_abs hn') (by omega)) ha hk)
theorem w_sub_fi (hA : A.handled = none) (ha : Bd a i) (hn' : In2 n j) (hk : max i j + 1 ≤ 1000) (h : QF Q s (max i j + 1)) : wpAny (model prog w) A (binaryOp .Sub (.float a t) (.int n u)) Q E s :=
  sub_fi_sharp hA (fun hb => absurd hb (big_lt (in2_abs hn') (by omega))) fun _ => h _ (sub_bd ha (ofInt_bd (in2_abs hn') (by omega)) hk)
theorem w_sub_if (hA : A.handled = none) (ha : Bd a i) (hn' : In2 n j) (hk : max j i + 1 ≤ 1000) (h : QF Q s (max j i + 1)) : wpAny (model prog w) A (binaryOp .Sub (.int n u) (.float a t)) Q E s :=
  sub_if_sharp hA (fun hb => absurd hb (big_lt (in2_abs hn') (by omega))) fun _ => h _ (sub_bd (ofInt_bd (in2_abs hn') (by omega)) ha hk)
theorem w_mul_fi (hA : A.handled = none) (ha : Bd a i) (hn' : In2 n j) (hk : i + j ≤ 1000) (h : QF Q s (i + j)) : wpAny (model prog w) A (binaryOp .Mult (.float a t) (.int n u)) Q E s :=
  mul_fi_sharp hA (fun hb => absurd hb (big_lt (in2_abs hn') (by omega))) fun _ => h _ (mul_bd ha (ofInt_bd (in2_abs hn') (by omega)) hk)
theorem w_div_fi (hA : A.handled = none) (ha : Bd a i) (hn' : In2 n j) (h0 : n ≠ 0) (hj : j ≤ 1000) (hk : i ≤ 1000) (h : QF Q s i) : wpAny (model prog w) A (binaryOp .Div (.float a t) (.int n u)) Q E s :=
  truediv_fi hA (fun ho => absurd ho (over_no (in2_abs hn') hj)) (fun hz => absurd hz h0) fun _ _ => h _ (div_bd ha (ofInt_ge1 h0 (in2_abs hn') hj) hk)
theorem w_mod_fi (hA : A.handled = none) (ha : Bd a i) (hn' : In2 n j) (h0 : n ≠ 0) (hj : j + 1 ≤ 1000) (h : QF Q s (j + 1)) : wpAny (model prog w) A (binaryOp .Mod (.float a t) (.int n u)) Q E s :=
  mod_fi hA (fun ho => absurd ho (over_no (in2_abs hn') (by omega))) (fun hz => absurd hz h0) fun _ _ => h _ (mod_bd ⟨_, ha⟩ (ofInt_bd (in2_abs hn') (by omega)) (by
    cases hz : Float64.isZero (Float64.ofInt n) with
    | false => rfl
    | true => exact absurd ((isZero_ofInt n).mp hz) h0) hj)
theorem w_div_ii {m : Int} (hA : A.handled = none) (hn' : In2 n i) (h0 : m ≠ 0) (hk : i ≤ 1000) (h : QF Q s i) : wpAny (model prog w) A (binaryOp .Div (.int n t) (.int m u)) Q E s :=
  div_ii_fits hA (Nat.lt_of_le_of_lt (in2_abs hn') (Nat.pow_lt_pow_right (by decide) (by omega))) (fun hz => absurd hz h0) fun _ _ => h _ (ofFrac_bd (by omega) (in2_abs hn') hk)
theorem w_div_if (hA : A.handled = none) (hn' : In2 n i) (hb : Ge1 a) (hk : i ≤ 1000) (h : QF Q s i) : wpAny (model prog w) A (binaryOp .Div (.int n u) (.float a t)) Q E s :=
  truediv_if hA (fun ho => absurd ho (over_no (in2_abs hn') hk)) (fun _ hz => by
    obtain ⟨⟨_, m, _, hd, hm⟩, _⟩ := hb
    unfold Float64.isZero at hz
    rw [hd] at hz
    cases m with
    | zero => exact absurd rfl hm
    | succ m => cases hz) fun _ _ => h _ (div_bd (ofInt_bd (in2_abs hn') hk) hb hk)
theorem w_floor (hA : A.handled = none) (ha : Bd a i) (h : QI Q s i) : wpAny (model prog w) A (call (.builtin "math.floor") [.float a t]) Q E s :=
  call_floor_float hA (fun hx => by rw [not_nan_of_finite ha.fin] at hx; cases hx) (fun hx => by rw [not_inf_of_finite ha.fin] at hx; cases hx) fun _ => h _ (abs_lo (floor_bd ha)) (abs_hi (floor_bd ha))
theorem w_trunc (hA : A.handled = none) (ha : Bd a i) (h : QI Q s i) : wpAny (model prog w) A (call (.builtin "math.trunc") [.float a t]) Q E s :=
  call_trunc_float hA (fun hx => by rw [not_nan_of_finite ha.fin] at hx; cases hx) (fun hx => by rw [not_inf_of_finite ha.fin] at hx; cases hx) fun _ => h _ (abs_lo (trunc_bd ha)) (abs_hi (trunc_bd ha))
theorem w_int (hA : A.handled = none) (ha : Bd a i) (h : QI Q s i) : wpAny (model prog w) A (call (.type "int") [.float a t]) Q E s :=
  call_int_float3 hA (fun hx => by rw [not_nan_of_finite ha.fin] at hx; cases hx) (fun hx => by rw [not_inf_of_finite ha.fin] at hx; cases hx) fun _ => h _ (abs_lo (trunc_bd ha)) (abs_hi (trunc_bd ha))
end
end
section
open_top hd for PySem.Challenge.rw_bb6041_01
end
section
theorem walk_MClaims : True := by
  w_top off
  trivial
abbrev Ret (h₀ : Heap) (L : Addr) (m : Str → Option Value) (news : List (Addr × Obj)) (s : Shared) (Q : Value → Shared → Prop) (P : Value → Prop) : Prop :=
  ∀ (v : Value) (h' : Heap) (tk' : Nat), P v → Fr h₀ L h' m → News h₀ L h' news → Q v { s with heap := h', toks := tk' }

abbrev Claim (w : World) (loose : List Str) (mean : ExcName → Option Value) (mg mb : Str → Option Value) (dep : Nat) (f : Addr) (vs : List Value) (P : Value → Prop) : Prop :=
  ∀ (news : List (Addr × Obj)) (dp un : Nat) (gd : Option (List Code)) (cn : Str) (cs : Scope) (a : Addr) (ccd : Value) (cl : List (Str × Addr)) (outer : List Env) (A₀ : Around) (base h₀ : Heap) (L : Addr) (m : Str → Option Value) (s : Shared) (Q E : Value → Shared → Prop),
    Below A₀ base outer h₀ → Fr h₀ L s.heap m → (Mine.hd.heap_39 w.params).In h₀ → News h₀ L s.heap news → Top Mine.hd.view_39 loose mean mg mb h₀ → cs.kind = .function →
      dp + dep < recursionLimit → un + 8 * dep < cLine → Ret h₀ L m news s Q P →
      wpAny (model PySem.Challenge.rw_bb6041_01.row.prog w) (ktrTop dp un gd cn cs L a ccd cl outer) (call (.ref f) vs) Q E s

theorem use {w : World} {loose : List Str} {mean : ExcName → Option Value} {mg mb : Str → Option Value} {dep : Nat} {f : Addr} {vs : List Value} {P : Value → Prop} (C : Claim w loose mean mg mb dep f vs P)
    {news : List (Addr × Obj)} {dp un : Nat} {gd : Option (List Code)} {cn : Str} {cs : Scope} {a : Addr} {ccd : Value} {cl : List (Str × Addr)} {outer : List Env} {A₀ : Around} {base h₀ : Heap} {L : Addr} {m : Str → Option Value} {s : Shared} {Q E : Value → Shared → Prop}
    (B : Below A₀ base outer h₀) (F : Fr h₀ L s.heap m) (X : (Mine.hd.heap_39 w.params).In h₀) (N : News h₀ L s.heap news) (T : Top Mine.hd.view_39 loose mean mg mb h₀) (hk : cs.kind = .function)
    (hd : dp + dep < recursionLimit) (hu : un + 8 * dep < cLine) (ret : Ret h₀ L m news s Q P) :
    wpAny (model PySem.Challenge.rw_bb6041_01.row.prog w) (ktrTop dp un gd cn cs L a ccd cl outer) (call (.ref f) vs) Q E s :=
  C _ _ _ _ _ _ _ _ _ _ _ _ _ _ _ _ _ _ B F X N T hk hd hu ret

theorem in30 {prog : Program} {w : World} {A : Around} {E : Value → Shared → Prop} {s : Shared} {h₀ : Heap} {L : Addr} {m : Str → Option Value} {x : Int} {u : Tok} {Q : Value → Shared → Prop} (F : Fr h₀ L s.heap m) (X : (Mine.hd.heap_39 w.params).In h₀)
    (h : ∀ b, Q (.bool b) s) : wpAny (model prog w) A (compareOp .In (.int x u) (.ref 55)) Q E s :=
  in_tuple_ints (items := #[.int 4 411, .int 6 412, .int 9 413, .int 11 414]) (ns := [4, 6, 9, 11]) ⟨_, F.keep _ _ (X 55 _ rfl), rfl, _, rfl⟩ (.cons _ _ (.cons _ _ (.cons _ _ (.cons _ _ .nil)))) (h _)
section
variable {M : Model} {A : Around} {E : Value → Shared → Prop} {s : Shared} {h₀ : Heap} {L : Addr} {m : Str → Option Value} {news : List (Addr × Obj)} {Q : Flow → Shared → Prop}
/-- the ways of a suite meet: one name holds an int with a bound -/
def JEnd (h₀ : Heap) (L : Addr) (m : Str → Option Value) (news : List (Addr × Obj)) (s : Shared) (x : Str) (k : Nat) (f : Flow) (s' : Shared) : Prop :=
  f = .next ∧ ∃ h' tk y t, s' = { s with heap := h', toks := tk } ∧ Fr h₀ L h' (fun z => if z = x then some (.int y t) else m z) ∧ News h₀ L h' news ∧ -(2 ^ k : Int) ≤ y ∧ y ≤ (2 ^ k : Int)
theorem join_int {c : Sem Flow} (x : Str) (k : Nat) (_F : Fr h₀ L s.heap m) (_N : News h₀ L s.heap news) (hc : wpAny M A c (fun f s' => JEnd h₀ L m news s x k f s') E s)
    (hk : ∀ h' tk y t, Fr h₀ L h' (fun z => if z = x then some (.int y t) else m z) → News h₀ L h' news → -(2 ^ k : Int) ≤ y → y ≤ (2 ^ k : Int) → Q .next { s with heap := h', toks := tk }) : wpAny M A c Q E s := by
  refine wpAny_mono hc (fun f s' q => ?_) fun _ _ h => h
  obtain ⟨rfl, h', tk, y, t, rfl, F', N', b1, b2⟩ := q
  exact hk h' tk y t F' N' b1 b2
theorem jend_st {x : Str} {k : Nat} {h' : Heap} {tk : Nat} {y : Int} {t : Tok} (F : Fr h₀ L h' (fun z => if z = x then some (.int y t) else m z)) (N : News h₀ L h' news) (h1 : -(2 ^ k : Int) ≤ y) (h2 : y ≤ (2 ^ k : Int)) :
    JEnd h₀ L m news s x k .next { s with heap := h', toks := tk } := ⟨rfl, h', tk, y, t, rfl, F, N, h1, h2⟩
theorem jend_no {x : Str} {k : Nat} {h' : Heap} {tk : Nat} {y : Int} {t : Tok} (F : Fr h₀ L h' m) (hm : m x = some (.int y t)) (N : News h₀ L h' news) (h1 : -(2 ^ k : Int) ≤ y) (h2 : y ≤ (2 ^ k : Int)) :
    JEnd h₀ L m news s x k .next { s with heap := h', toks := tk } := by
  have e : (fun z => if z = x then some (Value.int y t) else m z) = m := by
    funext z
    by_cases h : z = x
    · subst h; simp [hm]
    · simp [h]
  exact ⟨rfl, h', tk, y, t, rfl, by rw [e]; exact F, N, h1, h2⟩
end
def leapB (y : Int) : Bool := decide (Int.fmod y 4 = 0) && (decide (Int.fmod y 100 ≠ 0) || decide (Int.fmod y 400 = 0))
theorem c_isleap (w : World) (loose : List Str) (mean : ExcName → Option Value) (mg mb : Str → Option Value) (y : Int) (t : Tok) :
    Claim w loose mean mg mb 1 62 [.int y t] (fun v => v = .bool (leapB y)) := by
  unfold Claim
  k_fill
  dsimp only [Ret]
  intros
  rename_i hret
  refine wpAny_call ?_
  k_dflt cell_enter
  k_steps
  all_goals (refine hret _ _ _ ?eP ?eF ?eN; (case eF => k_asm); (case eN => first | k_asm | (refine' cb_drop ?cbN ?cbS; (case cbN => assumption); (case cbS => kcj_all))); (case eP => (refine congrArg Value.bool ?_; unfold leapB; cb_eq)))

end
section
theorem walk_MLegal : True := by
  w_top off
  trivial
-- a float's bound, an int's bound, a bound's number
local macro_rules | `(tactic| kwd_rel) => `(tactic| first | assumption | exact lit_bd (k := 22) (by decide +kernel))
local macro_rules | `(tactic| kwd_inv) => `(tactic| first | exact And.intro (by assumption) (by assumption) | ((show -(2 ^ 8 : Int) ≤ _ ∧ _ ≤ (2 ^ 8 : Int)); constructor <;> omega) | ((show -(2 ^ 20 : Int) ≤ _ ∧ _ ≤ (2 ^ 20 : Int)); constructor <;> omega) | ((show -(2 ^ 40 : Int) ≤ _ ∧ _ ≤ (2 ^ 40 : Int)); constructor <;> omega) | ((show -(2 ^ 60 : Int) ≤ _ ∧ _ ≤ (2 ^ 60 : Int)); constructor <;> omega) | ((show -(2 ^ 80 : Int) ≤ _ ∧ _ ≤ (2 ^ 80 : Int)); constructor <;> omega) | ((show -(2 ^ 115 : Int) ≤ _ ∧ _ ≤ (2 ^ 115 : Int)); constructor <;> omega) | ((show -(2 ^ 150 : Int) ≤ _ ∧ _ ≤ (2 ^ 150 : Int)); constructor <;> omega) | ((show -(2 ^ 215 : Int) ≤ _ ∧ _ ≤ (2 ^ 215 : Int)); constructor <;> omega))
local macro_rules | `(tactic| walk_at "binaryOp Add float float") => `(tactic| (k_dflt (refine' w_add_ff ?fa ?fb ?fk ?_; (case fa => kwd_rel); (case fb => kwd_rel); (case fk => decide); intro zf hf; (try simp only [Nat.max_def, Nat.reduceLeDiff, reduceIte, Nat.reduceAdd] at hf))))
local macro_rules | `(tactic| walk_at "inplaceOp Add float float") => `(tactic| (k_dflt (refine' w_iadd_ff ?fa ?fb ?fk ?_; (case fa => kwd_rel); (case fb => kwd_rel); (case fk => decide); intro zf hf; (try simp only [Nat.max_def, Nat.reduceLeDiff, reduceIte, Nat.reduceAdd] at hf))))
local macro_rules | `(tactic| walk_at "binaryOp Sub float float") => `(tactic| (k_dflt (refine' w_sub_ff ?fa ?fb ?fk ?_; (case fa => kwd_rel); (case fb => kwd_rel); (case fk => decide); intro zf hf; (try simp only [Nat.max_def, Nat.reduceLeDiff, reduceIte, Nat.reduceAdd] at hf))))
local macro_rules | `(tactic| walk_at "binaryOp Div float float") => `(tactic| (k_dflt (refine' w_div_ff ?fA ?fa ?fb ?fk ?_; (case fA => rfl); (case fa => kwd_rel); (case fb => exact lit_ge1 (by decide +kernel)); (case fk => decide); intro zf hf)))
local macro_rules | `(tactic| walk_at "binaryOp Add float int") => `(tactic| (k_dflt (refine' w_add_fi ?fA ?fa ?fb ?fk ?_; (case fA => rfl); (case fa => kwd_rel); (case fb => kwd_inv); (case fk => decide); intro zf hf; (try simp only [Nat.max_def, Nat.reduceLeDiff, reduceIte, Nat.reduceAdd] at hf))))
local macro_rules | `(tactic| walk_at "binaryOp Add int float") => `(tactic| (k_dflt (refine' w_add_if ?fA ?fa ?fb ?fk ?_; (case fA => rfl); (case fa => kwd_rel); (case fb => kwd_inv); (case fk => decide); intro zf hf; (try simp only [Nat.max_def, Nat.reduceLeDiff, reduceIte, Nat.reduceAdd] at hf))))
local macro_rules | `(tactic| walk_at "binaryOp Sub float int") => `(tactic| (k_dflt (refine' w_sub_fi ?fA ?fa ?fb ?fk ?_; (case fA => rfl); (case fa => kwd_rel); (case fb => kwd_inv); (case fk => decide); intro zf hf; (try simp only [Nat.max_def, Nat.reduceLeDiff, reduceIte, Nat.reduceAdd] at hf))))
local macro_rules | `(tactic| walk_at "binaryOp Sub int float") => `(tactic| (k_dflt (refine' w_sub_if ?fA ?fa ?fb ?fk ?_; (case fA => rfl); (case fa => kwd_rel); (case fb => kwd_inv); (case fk => decide); intro zf hf; (try simp only [Nat.max_def, Nat.reduceLeDiff, reduceIte, Nat.reduceAdd] at hf))))
local macro_rules | `(tactic| walk_at "binaryOp Mult float int") => `(tactic| (k_dflt (refine' w_mul_fi ?fA ?fa ?fb ?fk ?_; (case fA => rfl); (case fa => kwd_rel); (case fb => kwd_inv); (case fk => decide); intro zf hf; (try simp only [Nat.reduceAdd] at hf))))
local macro_rules | `(tactic| walk_at "binaryOp Div float int") => `(tactic| (k_dflt (refine' w_div_fi ?fA ?fa ?fb ?f0 ?fj ?fk ?_; (case fA => rfl); (case fa => kwd_rel); (case fb => kwd_inv); (case f0 => decide); (case fj => decide); (case fk => decide); intro zf hf)))
local macro_rules | `(tactic| walk_at "binaryOp Mod float int") => `(tactic| (k_dflt (refine' w_mod_fi ?fA ?fa ?fb ?f0 ?fj ?_; (case fA => rfl); (case fa => kwd_rel); (case fb => kwd_inv); (case f0 => decide); (case fj => decide); intro zf hf; (try simp only [Nat.reduceAdd] at hf))))
local macro_rules | `(tactic| walk_at "binaryOp Div int int") => `(tactic| (k_dflt (refine' w_div_ii ?fA ?fb ?f0 ?fk ?_; (case fA => rfl); (case fb => kwd_inv); (case f0 => decide); (case fk => decide); intro zf hf)))
local macro_rules | `(tactic| walk_at "call builtin:math.floor") => `(tactic| (k_dflt (refine' w_floor ?fA ?fa ?_; (case fA => rfl); (case fa => kwd_rel); intro zf hf1 hf2)))
local macro_rules | `(tactic| walk_at "call builtin:math.trunc") => `(tactic| (k_dflt (refine' w_trunc ?fA ?fa ?_; (case fA => rfl); (case fa => kwd_rel); intro zf hf1 hf2)))
local macro_rules | `(tactic| walk_at "call type:int") => `(tactic| (k_dflt (refine' w_int ?fA ?fa ?_; (case fA => rfl); (case fa => kwd_rel); intro zf hf1 hf2)))

-- a def entered where the frames' number is a letter
local macro_rules | `(tactic| walk_at "call ref") => `(tactic| (k_here; k_dflt (refine wpAny_call ?_; (refine' code_def ?k1 ?k2 ?k3 ?k4 ?k5 ?kA ?kF ?kK ?k6 ?k7 ?k8 ?k9 ?kB ?_ ?c2 ?c3 ?c4 ?c5; (case kA => exact rfl); (case kF => exact rfl); (case kK => first | exact rfl | assumption); (case k1 => k_asm); (case k2 => k_asm); (case k3 => k_asm); (case k4 => k_asm); (case k5 => k_asm); (case k6 => k_is); (case k7 => k_is); (case k8 => ktr_room); (case k9 => exact BindsTo.of_eq rfl); (case c5 => decide); (case kB => exact locs rfl); (case c2 => exact rfl); (case c3 => exact rfl); (case c4 => exact rfl); k_whole; intro g' L' h' FG' F' N' B' X' T'; (try dsimp only); (try k_lift B'); (try k_fold)))))

local macro_rules | `(tactic| walk_at "compareOp In int ref") => `(tactic| (k_here; k_dflt (refine' in30 ?k1 ?k2 ?_; (case k1 => k_asm); (case k2 => k_asm)); intro b9))
local macro_rules | `(tactic| walk_at "binaryOp Div int float") => `(tactic| (k_dflt (refine' w_div_if ?fA ?fb ?fc ?fk ?_; (case fA => rfl); (case fb => kwd_inv); (case fc => exact lit_ge1 (by decide +kernel)); (case fk => decide); intro zf hf)))
local macro_rules | `(tactic| walk_at "call ref") => `(tactic| (k_here; k_dflt (refine' use (c_isleap _ _ _ _ _ _ _) ?k1 ?k2 ?k3 ?k4 ?k5 ?k6 ?kd ?ku ?_; (case k1 => k_asm); (case k2 => k_asm); (case k3 => k_asm); (case k4 => k_asm); (case k5 => k_asm); (case k6 => first | exact rfl | assumption); (case kd => ktr_room); (case ku => ktr_units)); (intro v9 h9 tk9 hP9 F9 N9; subst hP9); (try dsimp only); (try k_fold)))

theorem c_legal (w : World) (loose : List Str) (mean : ExcName → Option Value) (mg mb : Str → Option Value) (y m : Int) (t1 t2 t3 : Tok) :
    Claim w loose mean mg mb 2 69 [.int y t1, .int m t2, .int 1 t3] (fun v => v = .bool true) := by
  unfold Claim
  k_fill
  dsimp only [Ret]
  intros
  rename_i hret
  refine wpAny_call ?_
  k_dflt cell_enter
  k_steps
  all_goals (refine hret _ _ _ ?eP ?eF ?eN; (case eF => with_reducible assumption); (case eN => first | with_reducible assumption | (refine' cb_drop ?cbN ?cbS; (case cbN => with_reducible assumption); (case cbS => exact fun _ hp => List.mem_cons_of_mem _ hp))); (case eP => rfl))
end
section
theorem walk_MJdg : True := by
  w_top off
  trivial
-- a float's bound, an int's bound, a bound's number
local macro_rules | `(tactic| kwd_rel) => `(tactic| first | assumption | exact lit_bd (k := 22) (by decide +kernel))
local macro_rules | `(tactic| kwd_inv) => `(tactic| first | exact And.intro (by assumption) (by assumption) | ((show -(2 ^ 8 : Int) ≤ _ ∧ _ ≤ (2 ^ 8 : Int)); constructor <;> omega) | ((show -(2 ^ 20 : Int) ≤ _ ∧ _ ≤ (2 ^ 20 : Int)); constructor <;> omega) | ((show -(2 ^ 40 : Int) ≤ _ ∧ _ ≤ (2 ^ 40 : Int)); constructor <;> omega) | ((show -(2 ^ 60 : Int) ≤ _ ∧ _ ≤ (2 ^ 60 : Int)); constructor <;> omega) | ((show -(2 ^ 80 : Int) ≤ _ ∧ _ ≤ (2 ^ 80 : Int)); constructor <;> omega) | ((show -(2 ^ 115 : Int) ≤ _ ∧ _ ≤ (2 ^ 115 : Int)); constructor <;> omega) | ((show -(2 ^ 150 : Int) ≤ _ ∧ _ ≤ (2 ^ 150 : Int)); constructor <;> omega) | ((show -(2 ^ 215 : Int) ≤ _ ∧ _ ≤ (2 ^ 215 : Int)); constructor <;> omega))
local macro_rules | `(tactic| walk_at "binaryOp Add float float") => `(tactic| (k_dflt (refine' w_add_ff ?fa ?fb ?fk ?_; (case fa => kwd_rel); (case fb => kwd_rel); (case fk => decide); intro zf hf; (try simp only [Nat.max_def, Nat.reduceLeDiff, reduceIte, Nat.reduceAdd] at hf))))
local macro_rules | `(tactic| walk_at "inplaceOp Add float float") => `(tactic| (k_dflt (refine' w_iadd_ff ?fa ?fb ?fk ?_; (case fa => kwd_rel); (case fb => kwd_rel); (case fk => decide); intro zf hf; (try simp only [Nat.max_def, Nat.reduceLeDiff, reduceIte, Nat.reduceAdd] at hf))))
local macro_rules | `(tactic| walk_at "binaryOp Sub float float") => `(tactic| (k_dflt (refine' w_sub_ff ?fa ?fb ?fk ?_; (case fa => kwd_rel); (case fb => kwd_rel); (case fk => decide); intro zf hf; (try simp only [Nat.max_def, Nat.reduceLeDiff, reduceIte, Nat.reduceAdd] at hf))))
local macro_rules | `(tactic| walk_at "binaryOp Div float float") => `(tactic| (k_dflt (refine' w_div_ff ?fA ?fa ?fb ?fk ?_; (case fA => rfl); (case fa => kwd_rel); (case fb => exact lit_ge1 (by decide +kernel)); (case fk => decide); intro zf hf)))
local macro_rules | `(tactic| walk_at "binaryOp Add float int") => `(tactic| (k_dflt (refine' w_add_fi ?fA ?fa ?fb ?fk ?_; (case fA => rfl); (case fa => kwd_rel); (case fb => kwd_inv); (case fk => decide); intro zf hf; (try simp only [Nat.max_def, Nat.reduceLeDiff, reduceIte, Nat.reduceAdd] at hf))))
local macro_rules | `(tactic| walk_at "binaryOp Add int float") => `(tactic| (k_dflt (refine' w_add_if ?fA ?fa ?fb ?fk ?_; (case fA => rfl); (case fa => kwd_rel); (case fb => kwd_inv); (case fk => decide); intro zf hf; (try simp only [Nat.max_def, Nat.reduceLeDiff, reduceIte, Nat.reduceAdd] at hf))))
local macro_rules | `(tactic| walk_at "binaryOp Sub float int") => `(tactic| (k_dflt (refine' w_sub_fi ?fA ?fa ?fb ?fk ?_; (case fA => rfl); (case fa => kwd_rel); (case fb => kwd_inv); (case fk => decide); intro zf hf; (try simp only [Nat.max_def, Nat.reduceLeDiff, reduceIte, Nat.reduceAdd] at hf))))
local macro_rules | `(tactic| walk_at "binaryOp Sub int float") => `(tactic| (k_dflt (refine' w_sub_if ?fA ?fa ?fb ?fk ?_; (case fA => rfl); (case fa => kwd_rel); (case fb => kwd_inv); (case fk => decide); intro zf hf; (try simp only [Nat.max_def, Nat.reduceLeDiff, reduceIte, Nat.reduceAdd] at hf))))
local macro_rules | `(tactic| walk_at "binaryOp Mult float int") => `(tactic| (k_dflt (refine' w_mul_fi ?fA ?fa ?fb ?fk ?_; (case fA => rfl); (case fa => kwd_rel); (case fb => kwd_inv); (case fk => decide); intro zf hf; (try simp only [Nat.reduceAdd] at hf))))
local macro_rules | `(tactic| walk_at "binaryOp Div float int") => `(tactic| (k_dflt (refine' w_div_fi ?fA ?fa ?fb ?f0 ?fj ?fk ?_; (case fA => rfl); (case fa => kwd_rel); (case fb => kwd_inv); (case f0 => decide); (case fj => decide); (case fk => decide); intro zf hf)))
local macro_rules | `(tactic| walk_at "binaryOp Mod float int") => `(tactic| (k_dflt (refine' w_mod_fi ?fA ?fa ?fb ?f0 ?fj ?_; (case fA => rfl); (case fa => kwd_rel); (case fb => kwd_inv); (case f0 => decide); (case fj => decide); intro zf hf; (try simp only [Nat.reduceAdd] at hf))))
local macro_rules | `(tactic| walk_at "binaryOp Div int int") => `(tactic| (k_dflt (refine' w_div_ii ?fA ?fb ?f0 ?fk ?_; (case fA => rfl); (case fb => kwd_inv); (case f0 => decide); (case fk => decide); intro zf hf)))
local macro_rules | `(tactic| walk_at "call builtin:math.floor") => `(tactic| (k_dflt (refine' w_floor ?fA ?fa ?_; (case fA => rfl); (case fa => kwd_rel); intro zf hf1 hf2)))
local macro_rules | `(tactic| walk_at "call builtin:math.trunc") => `(tactic| (k_dflt (refine' w_trunc ?fA ?fa ?_; (case fA => rfl); (case fa => kwd_rel); intro zf hf1 hf2)))
local macro_rules | `(tactic| walk_at "call type:int") => `(tactic| (k_dflt (refine' w_int ?fA ?fa ?_; (case fA => rfl); (case fa => kwd_rel); intro zf hf1 hf2)))

-- a def entered where the frames' number is a letter
local macro_rules | `(tactic| walk_at "call ref") => `(tactic| (k_here; k_dflt (refine wpAny_call ?_; (refine' code_def ?k1 ?k2 ?k3 ?k4 ?k5 ?kA ?kF ?kK ?k6 ?k7 ?k8 ?k9 ?kB ?_ ?c2 ?c3 ?c4 ?c5; (case kA => exact rfl); (case kF => exact rfl); (case kK => first | exact rfl | assumption); (case k1 => k_asm); (case k2 => k_asm); (case k3 => k_asm); (case k4 => k_asm); (case k5 => k_asm); (case k6 => k_is); (case k7 => k_is); (case k8 => ktr_room); (case k9 => exact BindsTo.of_eq rfl); (case c5 => decide); (case kB => exact locs rfl); (case c2 => exact rfl); (case c3 => exact rfl); (case c4 => exact rfl); k_whole; intro g' L' h' FG' F' N' B' X' T'; (try dsimp only); (try k_lift B'); (try k_fold)))))

local macro_rules | `(tactic| walk_at "compareOp In int ref") => `(tactic| (k_here; k_dflt (refine' in30 ?k1 ?k2 ?_; (case k1 => k_asm); (case k2 => k_asm)); intro b9))
local macro_rules | `(tactic| walk_at "binaryOp Div int float") => `(tactic| (k_dflt (refine' w_div_if ?fA ?fb ?fc ?fk ?_; (case fA => rfl); (case fb => kwd_inv); (case fc => exact lit_ge1 (by decide +kernel)); (case fk => decide); intro zf hf)))
local macro_rules | `(tactic| walk_at "eval Call") => `(tactic| refine Call_ ?_)
local macro_rules | `(tactic| walk_at "JEnd") => `(tactic| (k_dflt (first
  | (refine' jend_st ?jF ?jN ?j1 ?j2; (case jF => with_reducible assumption); (case jN => with_reducible assumption); (case j1 => omega); (case j2 => omega))
  | (refine' jend_no ?jF ?jm ?jN ?j1 ?j2; (case jF => with_reducible assumption); (case jm => rfl); (case jN => with_reducible assumption); (case j1 => omega); (case j2 => omega)))))
local macro_rules | `(tactic| walk_at "exec If") => `(tactic| (k_here; (rename Fr _ _ _ _ => cF'); (rename News _ _ _ _ => cN'); k_dflt (first
  | ((with_reducible show wpAny _ _ (exec (Stmt.If (Expr.UnaryOp _ _ _) _ _ _) _) _ _ _); (refine' join_int (Str.ofString "year") 60 cF' cN' ?_ ?_))
  | ((with_reducible show wpAny _ _ (exec (Stmt.If (Expr.Compare (Expr.Name (Str.ofString "yearday") _) _ _ _) _ _ _) _) _ _ _); (refine' join_int (Str.ofString "leap_adj") 2 cF' cN' ?_ ?_))
  | ((with_reducible show wpAny _ _ (exec (Stmt.If (Expr.Compare (Expr.Name (Str.ofString "e") _) _ _ _) _ _ _) _) _ _ _); (refine' join_int (Str.ofString "month") 130 cF' cN' ?_ ?_))
  | ((with_reducible show wpAny _ _ (exec (Stmt.If (Expr.Compare (Expr.Name (Str.ofString "month") _) [CmpOp.Gt] _ _) _ _ _) _) _ _ _); (refine' join_int (Str.ofString "year") 100 cF' cN' ?_ ?_))
  | ((with_reducible show wpAny _ _ (exec (Stmt.If (Expr.Compare (Expr.Name (Str.ofString "month") _) [CmpOp.LtE] _ _) _ _ _) _) _ _ _); (refine' join_int (Str.ofString "leap_adj") 2 cF' cN' ?_ ?_))); rotate_left; (clear cF' cN'; intro h9 tk9 y9 t9 F9 N9 hb9 hc9; (try dsimp only)); rotate_right; (refine wpAny_If ?_); (try k_fold)))
local macro_rules | `(tactic| walk_at "call ref") => `(tactic| (k_here; k_dflt (refine' use (c_isleap _ _ _ _ _ _ _) ?k1 ?k2 ?k3 ?k4 ?k5 ?k6 ?kd ?ku ?_; (case k1 => k_asm); (case k2 => k_asm); (case k3 => k_asm); (case k4 => k_asm); (case k5 => k_asm); (case k6 => first | exact rfl | assumption); (case kd => ktr_room); (case ku => ktr_units)); (intro v9 h9 tk9 hP9 F9 N9; subst hP9); (try dsimp only); (try k_fold)))

local macro_rules | `(tactic| walk_at "call ref") => `(tactic| (k_here; k_dflt (refine' use (c_legal _ _ _ _ _ _ _ _ _ _) ?k1 ?k2 ?k3 ?k4 ?k5 ?k6 ?kd ?ku ?_; (case k1 => k_asm); (case k2 => k_asm); (case k3 => k_asm); (case k4 => k_asm); (case k5 => k_asm); (case k6 => first | exact rfl | assumption); (case kd => ktr_room); (case ku => ktr_units)); (intro v9 h9 tk9 hP9 F9 N9; subst hP9); (try dsimp only); (try k_fold)))
theorem c_jdg (w : World) (loose : List Str) (mean : ExcName → Option Value) (mg mb : Str → Option Value) (y m : Int) (t1 t2 t3 : Tok) (hy1 : -(2 ^ 100 : Int) ≤ y) (hy2 : y ≤ (2 ^ 100 : Int)) (hm1 : -(2 ^ 100 : Int) ≤ m) (hm2 : m ≤ (2 ^ 100 : Int)) :
    Claim w loose mean mg mb 3 76 [.int y t1, .int m t2, .int 1 t3] (fun v => ∃ z t, v = .float z t ∧ Bd z 130) := by
  unfold Claim
  k_fill
  dsimp only [Ret]
  intros
  rename_i hret
  refine wpAny_call ?_
  k_dflt cell_enter
  k_steps
  all_goals (refine hret _ _ _ ?eP ?eF ?eN; (case eF => with_reducible assumption); (case eN => first | with_reducible assumption | (refine' cb_drop ?cbN ?cbS; (case cbN => with_reducible assumption); (case cbS => exact fun _ hp => List.mem_cons_of_mem _ hp))); (case eP => exact ⟨_, _, rfl, Bd.mono (by assumption) (by decide)⟩))
end
section
theorem walk_MJdg2 : True := by
  w_top off
  trivial
local macro_rules | `(tactic| walk_at "spare line") => `(tactic| skip)
-- a float's bound, an int's bound, a bound's number
local macro_rules | `(tactic| kwd_rel) => `(tactic| first | assumption | exact lit_bd (k := 22) (by decide +kernel))
local macro_rules | `(tactic| kwd_inv) => `(tactic| first | exact And.intro (by assumption) (by assumption) | ((show -(2 ^ 8 : Int) ≤ _ ∧ _ ≤ (2 ^ 8 : Int)); constructor <;> omega) | ((show -(2 ^ 20 : Int) ≤ _ ∧ _ ≤ (2 ^ 20 : Int)); constructor <;> omega) | ((show -(2 ^ 40 : Int) ≤ _ ∧ _ ≤ (2 ^ 40 : Int)); constructor <;> omega) | ((show -(2 ^ 60 : Int) ≤ _ ∧ _ ≤ (2 ^ 60 : Int)); constructor <;> omega) | ((show -(2 ^ 80 : Int) ≤ _ ∧ _ ≤ (2 ^ 80 : Int)); constructor <;> omega) | ((show -(2 ^ 115 : Int) ≤ _ ∧ _ ≤ (2 ^ 115 : Int)); constructor <;> omega) | ((show -(2 ^ 150 : Int) ≤ _ ∧ _ ≤ (2 ^ 150 : Int)); constructor <;> omega) | ((show -(2 ^ 215 : Int) ≤ _ ∧ _ ≤ (2 ^ 215 : Int)); constructor <;> omega))
local macro_rules | `(tactic| walk_at "binaryOp Add float float") => `(tactic| (k_dflt (refine' w_add_ff ?fa ?fb ?fk ?_; (case fa => kwd_rel); (case fb => kwd_rel); (case fk => decide); intro zf hf; (try simp only [Nat.max_def, Nat.reduceLeDiff, reduceIte, Nat.reduceAdd] at hf))))
local macro_rules | `(tactic| walk_at "inplaceOp Add float float") => `(tactic| (k_dflt (refine' w_iadd_ff ?fa ?fb ?fk ?_; (case fa => kwd_rel); (case fb => kwd_rel); (case fk => decide); intro zf hf; (try simp only [Nat.max_def, Nat.reduceLeDiff, reduceIte, Nat.reduceAdd] at hf))))
local macro_rules | `(tactic| walk_at "binaryOp Sub float float") => `(tactic| (k_dflt (refine' w_sub_ff ?fa ?fb ?fk ?_; (case fa => kwd_rel); (case fb => kwd_rel); (case fk => decide); intro zf hf; (try simp only [Nat.max_def, Nat.reduceLeDiff, reduceIte, Nat.reduceAdd] at hf))))
local macro_rules | `(tactic| walk_at "binaryOp Div float float") => `(tactic| (k_dflt (refine' w_div_ff ?fA ?fa ?fb ?fk ?_; (case fA => rfl); (case fa => kwd_rel); (case fb => exact lit_ge1 (by decide +kernel)); (case fk => decide); intro zf hf)))
local macro_rules | `(tactic| walk_at "binaryOp Add float int") => `(tactic| (k_dflt (refine' w_add_fi ?fA ?fa ?fb ?fk ?_; (case fA => rfl); (case fa => kwd_rel); (case fb => kwd_inv); (case fk => decide); intro zf hf; (try simp only [Nat.max_def, Nat.reduceLeDiff, reduceIte, Nat.reduceAdd] at hf))))
local macro_rules | `(tactic| walk_at "binaryOp Add int float") => `(tactic| (k_dflt (refine' w_add_if ?fA ?fa ?fb ?fk ?_; (case fA => rfl); (case fa => kwd_rel); (case fb => kwd_inv); (case fk => decide); intro zf hf; (try simp only [Nat.max_def, Nat.reduceLeDiff, reduceIte, Nat.reduceAdd] at hf))))
local macro_rules | `(tactic| walk_at "binaryOp Sub float int") => `(tactic| (k_dflt (refine' w_sub_fi ?fA ?fa ?fb ?fk ?_; (case fA => rfl); (case fa => kwd_rel); (case fb => kwd_inv); (case fk => decide); intro zf hf; (try simp only [Nat.max_def, Nat.reduceLeDiff, reduceIte, Nat.reduceAdd] at hf))))
local macro_rules | `(tactic| walk_at "binaryOp Sub int float") => `(tactic| (k_dflt (refine' w_sub_if ?fA ?fa ?fb ?fk ?_; (case fA => rfl); (case fa => kwd_rel); (case fb => kwd_inv); (case fk => decide); intro zf hf; (try simp only [Nat.max_def, Nat.reduceLeDiff, reduceIte, Nat.reduceAdd] at hf))))
local macro_rules | `(tactic| walk_at "binaryOp Mult float int") => `(tactic| (k_dflt (refine' w_mul_fi ?fA ?fa ?fb ?fk ?_; (case fA => rfl); (case fa => kwd_rel); (case fb => kwd_inv); (case fk => decide); intro zf hf; (try simp only [Nat.reduceAdd] at hf))))
local macro_rules | `(tactic| walk_at "binaryOp Div float int") => `(tactic| (k_dflt (refine' w_div_fi ?fA ?fa ?fb ?f0 ?fj ?fk ?_; (case fA => rfl); (case fa => kwd_rel); (case fb => kwd_inv); (case f0 => decide); (case fj => decide); (case fk => decide); intro zf hf)))
local macro_rules | `(tactic| walk_at "binaryOp Mod float int") => `(tactic| (k_dflt (refine' w_mod_fi ?fA ?fa ?fb ?f0 ?fj ?_; (case fA => rfl); (case fa => kwd_rel); (case fb => kwd_inv); (case f0 => decide); (case fj => decide); intro zf hf; (try simp only [Nat.reduceAdd] at hf))))
local macro_rules | `(tactic| walk_at "binaryOp Div int int") => `(tactic| (k_dflt (refine' w_div_ii ?fA ?fb ?f0 ?fk ?_; (case fA => rfl); (case fb => kwd_inv); (case f0 => decide); (case fk => decide); intro zf hf)))
local macro_rules | `(tactic| walk_at "call builtin:math.floor") => `(tactic| (k_dflt (refine' w_floor ?fA ?fa ?_; (case fA => rfl); (case fa => kwd_rel); intro zf hf1 hf2)))
local macro_rules | `(tactic| walk_at "call builtin:math.trunc") => `(tactic| (k_dflt (refine' w_trunc ?fA ?fa ?_; (case fA => rfl); (case fa => kwd_rel); intro zf hf1 hf2)))
local macro_rules | `(tactic| walk_at "call type:int") => `(tactic| (k_dflt (refine' w_int ?fA ?fa ?_; (case fA => rfl); (case fa => kwd_rel); intro zf hf1 hf2)))

-- a def entered where the frames' number is a letter
local macro_rules | `(tactic| walk_at "call ref") => `(tactic| (k_here; k_dflt (refine wpAny_call ?_; (refine' code_def ?k1 ?k2 ?k3 ?k4 ?k5 ?kA ?kF ?kK ?k6 ?k7 ?k8 ?k9 ?kB ?_ ?c2 ?c3 ?c4 ?c5; (case kA => exact rfl); (case kF => exact rfl); (case kK => first | exact rfl | assumption); (case k1 => k_asm); (case k2 => k_asm); (case k3 => k_asm); (case k4 => k_asm); (case k5 => k_asm); (case k6 => k_is); (case k7 => k_is); (case k8 => ktr_room); (case k9 => exact BindsTo.of_eq rfl); (case c5 => decide); (case kB => exact locs rfl); (case c2 => exact rfl); (case c3 => exact rfl); (case c4 => exact rfl); k_whole; intro g' L' h' FG' F' N' B' X' T'; (try dsimp only); (try k_lift B'); (try k_fold)))))

local macro_rules | `(tactic| walk_at "compareOp In int ref") => `(tactic| (k_here; k_dflt (refine' in30 ?k1 ?k2 ?_; (case k1 => k_asm); (case k2 => k_asm)); intro b9))
local macro_rules | `(tactic| walk_at "binaryOp Div int float") => `(tactic| (k_dflt (refine' w_div_if ?fA ?fb ?fc ?fk ?_; (case fA => rfl); (case fb => kwd_inv); (case fc => exact lit_ge1 (by decide +kernel)); (case fk => decide); intro zf hf)))
local macro_rules | `(tactic| walk_at "eval Call") => `(tactic| refine Call_ ?_)
local macro_rules | `(tactic| walk_at "JEnd") => `(tactic| (k_dflt (first
  | (refine' jend_st ?jF ?jN ?j1 ?j2; (case jF => with_reducible assumption); (case jN => with_reducible assumption); (case j1 => omega); (case j2 => omega))
  | (refine' jend_no ?jF ?jm ?jN ?j1 ?j2; (case jF => with_reducible assumption); (case jm => rfl); (case jN => with_reducible assumption); (case j1 => omega); (case j2 => omega)))))
local macro_rules | `(tactic| walk_at "exec If") => `(tactic| (k_here; (rename Fr _ _ _ _ => cF'); (rename News _ _ _ _ => cN'); k_dflt (first
  | ((with_reducible show wpAny _ _ (exec (Stmt.If (Expr.UnaryOp _ _ _) _ _ _) _) _ _ _); (refine' join_int (Str.ofString "year") 60 cF' cN' ?_ ?_))
  | ((with_reducible show wpAny _ _ (exec (Stmt.If (Expr.Compare (Expr.Name (Str.ofString "yearday") _) _ _ _) _ _ _) _) _ _ _); (refine' join_int (Str.ofString "leap_adj") 2 cF' cN' ?_ ?_))
  | ((with_reducible show wpAny _ _ (exec (Stmt.If (Expr.Compare (Expr.Name (Str.ofString "e") _) _ _ _) _ _ _) _) _ _ _); (refine' join_int (Str.ofString "month") 130 cF' cN' ?_ ?_))
  | ((with_reducible show wpAny _ _ (exec (Stmt.If (Expr.Compare (Expr.Name (Str.ofString "month") _) [CmpOp.Gt] _ _) _ _ _) _) _ _ _); (refine' join_int (Str.ofString "year") 100 cF' cN' ?_ ?_))
  | ((with_reducible show wpAny _ _ (exec (Stmt.If (Expr.Compare (Expr.Name (Str.ofString "month") _) [CmpOp.LtE] _ _) _ _ _) _) _ _ _); (refine' join_int (Str.ofString "leap_adj") 2 cF' cN' ?_ ?_))); rotate_left; (clear cF' cN'; intro h9 tk9 y9 t9 F9 N9 hb9 hc9; (try dsimp only)); rotate_right; (refine wpAny_If ?_); (try k_fold)))
local macro_rules | `(tactic| walk_at "call ref") => `(tactic| (k_here; k_dflt (refine' use (c_isleap _ _ _ _ _ _ _) ?k1 ?k2 ?k3 ?k4 ?k5 ?k6 ?kd ?ku ?_; (case k1 => k_asm); (case k2 => k_asm); (case k3 => k_asm); (case k4 => k_asm); (case k5 => k_asm); (case k6 => first | exact rfl | assumption); (case kd => ktr_room); (case ku => ktr_units)); (intro v9 h9 tk9 hP9 F9 N9; subst hP9); (try dsimp only); (try k_fold)))

local macro_rules | `(tactic| walk_at "call ref") => `(tactic| (k_here; k_dflt (refine' use (c_legal _ _ _ _ _ _ _ _ _ _) ?k1 ?k2 ?k3 ?k4 ?k5 ?k6 ?kd ?ku ?_; (case k1 => k_asm); (case k2 => k_asm); (case k3 => k_asm); (case k4 => k_asm); (case k5 => k_asm); (case k6 => first | exact rfl | assumption); (case kd => ktr_room); (case ku => ktr_units)); (intro v9 h9 tk9 hP9 F9 N9; subst hP9); (try dsimp only); (try k_fold)))
theorem c_jdg2 (w : World) (loose : List Str) (mean : ExcName → Option Value) (mg mb : Str → Option Value) (y m : Int) (t1 t2 t3 : Tok) (hy1 : -(2 ^ 100 : Int) ≤ y) (hy2 : y ≤ (2 ^ 100 : Int)) (hm1 : -(2 ^ 200 : Int) ≤ m) (hm2 : m ≤ (2 ^ 200 : Int)) :
    Claim w loose mean mg mb 3 76 [.int y t1, .int m t2, .int 1 t3] (fun v => ∃ z t, v = .float z t ∧ Bd z 230) := by
  unfold Claim
  k_fill
  dsimp only [Ret]
  intros
  rename_i hret
  refine wpAny_call ?_
  k_dflt cell_enter
  k_steps
  all_goals (refine hret _ _ _ ?eP ?eF ?eN; (case eF => with_reducible assumption); (case eN => first | with_reducible assumption | (refine' cb_drop ?cbN ?cbS; (case cbN => with_reducible assumption); (case cbS => exact fun _ hp => List.mem_cons_of_mem _ hp))); (case eP => exact ⟨_, _, rfl, Bd.mono (by assumption) (by decide)⟩))
end
section
theorem walk_MFjj : True := by
  w_top off
  trivial
-- a float's bound, an int's bound, a bound's number
local macro_rules | `(tactic| kwd_rel) => `(tactic| first | assumption | exact lit_bd (k := 22) (by decide +kernel))
local macro_rules | `(tactic| kwd_inv) => `(tactic| first | exact And.intro (by assumption) (by assumption) | ((show -(2 ^ 8 : Int) ≤ _ ∧ _ ≤ (2 ^ 8 : Int)); constructor <;> omega) | ((show -(2 ^ 20 : Int) ≤ _ ∧ _ ≤ (2 ^ 20 : Int)); constructor <;> omega) | ((show -(2 ^ 40 : Int) ≤ _ ∧ _ ≤ (2 ^ 40 : Int)); constructor <;> omega) | ((show -(2 ^ 60 : Int) ≤ _ ∧ _ ≤ (2 ^ 60 : Int)); constructor <;> omega) | ((show -(2 ^ 80 : Int) ≤ _ ∧ _ ≤ (2 ^ 80 : Int)); constructor <;> omega) | ((show -(2 ^ 115 : Int) ≤ _ ∧ _ ≤ (2 ^ 115 : Int)); constructor <;> omega) | ((show -(2 ^ 150 : Int) ≤ _ ∧ _ ≤ (2 ^ 150 : Int)); constructor <;> omega) | ((show -(2 ^ 215 : Int) ≤ _ ∧ _ ≤ (2 ^ 215 : Int)); constructor <;> omega))
local macro_rules | `(tactic| walk_at "binaryOp Add float float") => `(tactic| (k_dflt (refine' w_add_ff ?fa ?fb ?fk ?_; (case fa => kwd_rel); (case fb => kwd_rel); (case fk => decide); intro zf hf; (try simp only [Nat.max_def, Nat.reduceLeDiff, reduceIte, Nat.reduceAdd] at hf))))
local macro_rules | `(tactic| walk_at "inplaceOp Add float float") => `(tactic| (k_dflt (refine' w_iadd_ff ?fa ?fb ?fk ?_; (case fa => kwd_rel); (case fb => kwd_rel); (case fk => decide); intro zf hf; (try simp only [Nat.max_def, Nat.reduceLeDiff, reduceIte, Nat.reduceAdd] at hf))))
local macro_rules | `(tactic| walk_at "binaryOp Sub float float") => `(tactic| (k_dflt (refine' w_sub_ff ?fa ?fb ?fk ?_; (case fa => kwd_rel); (case fb => kwd_rel); (case fk => decide); intro zf hf; (try simp only [Nat.max_def, Nat.reduceLeDiff, reduceIte, Nat.reduceAdd] at hf))))
local macro_rules | `(tactic| walk_at "binaryOp Div float float") => `(tactic| (k_dflt (refine' w_div_ff ?fA ?fa ?fb ?fk ?_; (case fA => rfl); (case fa => kwd_rel); (case fb => exact lit_ge1 (by decide +kernel)); (case fk => decide); intro zf hf)))
local macro_rules | `(tactic| walk_at "binaryOp Add float int") => `(tactic| (k_dflt (refine' w_add_fi ?fA ?fa ?fb ?fk ?_; (case fA => rfl); (case fa => kwd_rel); (case fb => kwd_inv); (case fk => decide); intro zf hf; (try simp only [Nat.max_def, Nat.reduceLeDiff, reduceIte, Nat.reduceAdd] at hf))))
local macro_rules | `(tactic| walk_at "binaryOp Add int float") => `(tactic| (k_dflt (refine' w_add_if ?fA ?fa ?fb ?fk ?_; (case fA => rfl); (case fa => kwd_rel); (case fb => kwd_inv); (case fk => decide); intro zf hf; (try simp only [Nat.max_def, Nat.reduceLeDiff, reduceIte, Nat.reduceAdd] at hf))))
local macro_rules | `(tactic| walk_at "binaryOp Sub float int") => `(tactic| (k_dflt (refine' w_sub_fi ?fA ?fa ?fb ?fk ?_; (case fA => rfl); (case fa => kwd_rel); (case fb => kwd_inv); (case fk => decide); intro zf hf; (try simp only [Nat.max_def, Nat.reduceLeDiff, reduceIte, Nat.reduceAdd] at hf))))
local macro_rules | `(tactic| walk_at "binaryOp Sub int float") => `(tactic| (k_dflt (refine' w_sub_if ?fA ?fa ?fb ?fk ?_; (case fA => rfl); (case fa => kwd_rel); (case fb => kwd_inv); (case fk => decide); intro zf hf; (try simp only [Nat.max_def, Nat.reduceLeDiff, reduceIte, Nat.reduceAdd] at hf))))
local macro_rules | `(tactic| walk_at "binaryOp Mult float int") => `(tactic| (k_dflt (refine' w_mul_fi ?fA ?fa ?fb ?fk ?_; (case fA => rfl); (case fa => kwd_rel); (case fb => kwd_inv); (case fk => decide); intro zf hf; (try simp only [Nat.reduceAdd] at hf))))
local macro_rules | `(tactic| walk_at "binaryOp Div float int") => `(tactic| (k_dflt (refine' w_div_fi ?fA ?fa ?fb ?f0 ?fj ?fk ?_; (case fA => rfl); (case fa => kwd_rel); (case fb => kwd_inv); (case f0 => decide); (case fj => decide); (case fk => decide); intro zf hf)))
local macro_rules | `(tactic| walk_at "binaryOp Mod float int") => `(tactic| (k_dflt (refine' w_mod_fi ?fA ?fa ?fb ?f0 ?fj ?_; (case fA => rfl); (case fa => kwd_rel); (case fb => kwd_inv); (case f0 => decide); (case fj => decide); intro zf hf; (try simp only [Nat.reduceAdd] at hf))))
local macro_rules | `(tactic| walk_at "binaryOp Div int int") => `(tactic| (k_dflt (refine' w_div_ii ?fA ?fb ?f0 ?fk ?_; (case fA => rfl); (case fb => kwd_inv); (case f0 => decide); (case fk => decide); intro zf hf)))
local macro_rules | `(tactic| walk_at "call builtin:math.floor") => `(tactic| (k_dflt (refine' w_floor ?fA ?fa ?_; (case fA => rfl); (case fa => kwd_rel); intro zf hf1 hf2)))
local macro_rules | `(tactic| walk_at "call builtin:math.trunc") => `(tactic| (k_dflt (refine' w_trunc ?fA ?fa ?_; (case fA => rfl); (case fa => kwd_rel); intro zf hf1 hf2)))
local macro_rules | `(tactic| walk_at "call type:int") => `(tactic| (k_dflt (refine' w_int ?fA ?fa ?_; (case fA => rfl); (case fa => kwd_rel); intro zf hf1 hf2)))

-- a def entered where the frames' number is a letter
local macro_rules | `(tactic| walk_at "call ref") => `(tactic| (k_here; k_dflt (refine wpAny_call ?_; (refine' code_def ?k1 ?k2 ?k3 ?k4 ?k5 ?kA ?kF ?kK ?k6 ?k7 ?k8 ?k9 ?kB ?_ ?c2 ?c3 ?c4 ?c5; (case kA => exact rfl); (case kF => exact rfl); (case kK => first | exact rfl | assumption); (case k1 => k_asm); (case k2 => k_asm); (case k3 => k_asm); (case k4 => k_asm); (case k5 => k_asm); (case k6 => k_is); (case k7 => k_is); (case k8 => ktr_room); (case k9 => exact BindsTo.of_eq rfl); (case c5 => decide); (case kB => exact locs rfl); (case c2 => exact rfl); (case c3 => exact rfl); (case c4 => exact rfl); k_whole; intro g' L' h' FG' F' N' B' X' T'; (try dsimp only); (try k_lift B'); (try k_fold)))))

local macro_rules | `(tactic| walk_at "compareOp In int ref") => `(tactic| (k_here; k_dflt (refine' in30 ?k1 ?k2 ?_; (case k1 => k_asm); (case k2 => k_asm)); intro b9))
local macro_rules | `(tactic| walk_at "binaryOp Div int float") => `(tactic| (k_dflt (refine' w_div_if ?fA ?fb ?fc ?fk ?_; (case fA => rfl); (case fb => kwd_inv); (case fc => exact lit_ge1 (by decide +kernel)); (case fk => decide); intro zf hf)))
local macro_rules | `(tactic| walk_at "eval Call") => `(tactic| refine Call_ ?_)
local macro_rules | `(tactic| walk_at "JEnd") => `(tactic| (k_dflt (first
  | (refine' jend_st ?jF ?jN ?j1 ?j2; (case jF => with_reducible assumption); (case jN => with_reducible assumption); (case j1 => omega); (case j2 => omega))
  | (refine' jend_no ?jF ?jm ?jN ?j1 ?j2; (case jF => with_reducible assumption); (case jm => rfl); (case jN => with_reducible assumption); (case j1 => omega); (case j2 => omega)))))
local macro_rules | `(tactic| walk_at "exec If") => `(tactic| (k_here; (rename Fr _ _ _ _ => cF'); (rename News _ _ _ _ => cN'); k_dflt (first
  | ((with_reducible show wpAny _ _ (exec (Stmt.If (Expr.UnaryOp _ _ _) _ _ _) _) _ _ _); (refine' join_int (Str.ofString "year") 60 cF' cN' ?_ ?_))
  | ((with_reducible show wpAny _ _ (exec (Stmt.If (Expr.Compare (Expr.Name (Str.ofString "yearday") _) _ _ _) _ _ _) _) _ _ _); (refine' join_int (Str.ofString "leap_adj") 2 cF' cN' ?_ ?_))
  | ((with_reducible show wpAny _ _ (exec (Stmt.If (Expr.Compare (Expr.Name (Str.ofString "e") _) _ _ _) _ _ _) _) _ _ _); (refine' join_int (Str.ofString "month") 130 cF' cN' ?_ ?_))
  | ((with_reducible show wpAny _ _ (exec (Stmt.If (Expr.Compare (Expr.Name (Str.ofString "month") _) [CmpOp.Gt] _ _) _ _ _) _) _ _ _); (refine' join_int (Str.ofString "year") 100 cF' cN' ?_ ?_))
  | ((with_reducible show wpAny _ _ (exec (Stmt.If (Expr.Compare (Expr.Name (Str.ofString "month") _) [CmpOp.LtE] _ _) _ _ _) _) _ _ _); (refine' join_int (Str.ofString "leap_adj") 2 cF' cN' ?_ ?_))); rotate_left; (clear cF' cN'; intro h9 tk9 y9 t9 F9 N9 hb9 hc9; (try dsimp only)); rotate_right; (refine wpAny_If ?_); (try k_fold)))
local macro_rules | `(tactic| walk_at "call ref") => `(tactic| (k_here; k_dflt (refine' use (c_isleap _ _ _ _ _ _ _) ?k1 ?k2 ?k3 ?k4 ?k5 ?k6 ?kd ?ku ?_; (case k1 => k_asm); (case k2 => k_asm); (case k3 => k_asm); (case k4 => k_asm); (case k5 => k_asm); (case k6 => first | exact rfl | assumption); (case kd => ktr_room); (case ku => ktr_units)); (intro v9 h9 tk9 hP9 F9 N9; subst hP9); (try dsimp only); (try k_fold)))

theorem c_fjj (w : World) (loose : List Str) (mean : ExcName → Option Value) (mg mb : Str → Option Value) (x : UInt64) (t : Tok) (hx : Bd x 44) :
    Claim w loose mean mg mb 4 90 [.float x t] (fun v => ∃ a, v = .ref a) := by
  unfold Claim
  k_fill
  dsimp only [Ret]
  intros
  rename_i hret
  refine wpAny_call ?_
  k_dflt cell_enter
  k_steps
  all_goals (refine hret _ _ _ ?eP ?eF ?eN; (case eF => with_reducible assumption); (case eN => first | with_reducible assumption | (refine' cb_drop ?cbN ?cbS; (case cbN => with_reducible assumption); (case cbS => exact fun _ hp => List.mem_cons_of_mem _ hp))); (case eP => exact ⟨_, rfl⟩))
end
section
theorem walk_MFjg : True := by
  w_top off
  trivial
-- a float's bound, an int's bound, a bound's number
local macro_rules | `(tactic| kwd_rel) => `(tactic| first | assumption | exact lit_bd (k := 22) (by decide +kernel))
local macro_rules | `(tactic| kwd_inv) => `(tactic| first | exact And.intro (by assumption) (by assumption) | ((show -(2 ^ 8 : Int) ≤ _ ∧ _ ≤ (2 ^ 8 : Int)); constructor <;> omega) | ((show -(2 ^ 20 : Int) ≤ _ ∧ _ ≤ (2 ^ 20 : Int)); constructor <;> omega) | ((show -(2 ^ 40 : Int) ≤ _ ∧ _ ≤ (2 ^ 40 : Int)); constructor <;> omega) | ((show -(2 ^ 60 : Int) ≤ _ ∧ _ ≤ (2 ^ 60 : Int)); constructor <;> omega) | ((show -(2 ^ 80 : Int) ≤ _ ∧ _ ≤ (2 ^ 80 : Int)); constructor <;> omega) | ((show -(2 ^ 115 : Int) ≤ _ ∧ _ ≤ (2 ^ 115 : Int)); constructor <;> omega) | ((show -(2 ^ 150 : Int) ≤ _ ∧ _ ≤ (2 ^ 150 : Int)); constructor <;> omega) | ((show -(2 ^ 215 : Int) ≤ _ ∧ _ ≤ (2 ^ 215 : Int)); constructor <;> omega))
local macro_rules | `(tactic| walk_at "binaryOp Add float float") => `(tactic| (k_dflt (refine' w_add_ff ?fa ?fb ?fk ?_; (case fa => kwd_rel); (case fb => kwd_rel); (case fk => decide); intro zf hf; (try simp only [Nat.max_def, Nat.reduceLeDiff, reduceIte, Nat.reduceAdd] at hf))))
local macro_rules | `(tactic| walk_at "inplaceOp Add float float") => `(tactic| (k_dflt (refine' w_iadd_ff ?fa ?fb ?fk ?_; (case fa => kwd_rel); (case fb => kwd_rel); (case fk => decide); intro zf hf; (try simp only [Nat.max_def, Nat.reduceLeDiff, reduceIte, Nat.reduceAdd] at hf))))
local macro_rules | `(tactic| walk_at "binaryOp Sub float float") => `(tactic| (k_dflt (refine' w_sub_ff ?fa ?fb ?fk ?_; (case fa => kwd_rel); (case fb => kwd_rel); (case fk => decide); intro zf hf; (try simp only [Nat.max_def, Nat.reduceLeDiff, reduceIte, Nat.reduceAdd] at hf))))
local macro_rules | `(tactic| walk_at "binaryOp Div float float") => `(tactic| (k_dflt (refine' w_div_ff ?fA ?fa ?fb ?fk ?_; (case fA => rfl); (case fa => kwd_rel); (case fb => exact lit_ge1 (by decide +kernel)); (case fk => decide); intro zf hf)))
local macro_rules | `(tactic| walk_at "binaryOp Add float int") => `(tactic| (k_dflt (refine' w_add_fi ?fA ?fa ?fb ?fk ?_; (case fA => rfl); (case fa => kwd_rel); (case fb => kwd_inv); (case fk => decide); intro zf hf; (try simp only [Nat.max_def, Nat.reduceLeDiff, reduceIte, Nat.reduceAdd] at hf))))
local macro_rules | `(tactic| walk_at "binaryOp Add int float") => `(tactic| (k_dflt (refine' w_add_if ?fA ?fa ?fb ?fk ?_; (case fA => rfl); (case fa => kwd_rel); (case fb => kwd_inv); (case fk => decide); intro zf hf; (try simp only [Nat.max_def, Nat.reduceLeDiff, reduceIte, Nat.reduceAdd] at hf))))
local macro_rules | `(tactic| walk_at "binaryOp Sub float int") => `(tactic| (k_dflt (refine' w_sub_fi ?fA ?fa ?fb ?fk ?_; (case fA => rfl); (case fa => kwd_rel); (case fb => kwd_inv); (case fk => decide); intro zf hf; (try simp only [Nat.max_def, Nat.reduceLeDiff, reduceIte, Nat.reduceAdd] at hf))))
local macro_rules | `(tactic| walk_at "binaryOp Sub int float") => `(tactic| (k_dflt (refine' w_sub_if ?fA ?fa ?fb ?fk ?_; (case fA => rfl); (case fa => kwd_rel); (case fb => kwd_inv); (case fk => decide); intro zf hf; (try simp only [Nat.max_def, Nat.reduceLeDiff, reduceIte, Nat.reduceAdd] at hf))))
local macro_rules | `(tactic| walk_at "binaryOp Mult float int") => `(tactic| (k_dflt (refine' w_mul_fi ?fA ?fa ?fb ?fk ?_; (case fA => rfl); (case fa => kwd_rel); (case fb => kwd_inv); (case fk => decide); intro zf hf; (try simp only [Nat.reduceAdd] at hf))))
local macro_rules | `(tactic| walk_at "binaryOp Div float int") => `(tactic| (k_dflt (refine' w_div_fi ?fA ?fa ?fb ?f0 ?fj ?fk ?_; (case fA => rfl); (case fa => kwd_rel); (case fb => kwd_inv); (case f0 => decide); (case fj => decide); (case fk => decide); intro zf hf)))
local macro_rules | `(tactic| walk_at "binaryOp Mod float int") => `(tactic| (k_dflt (refine' w_mod_fi ?fA ?fa ?fb ?f0 ?fj ?_; (case fA => rfl); (case fa => kwd_rel); (case fb => kwd_inv); (case f0 => decide); (case fj => decide); intro zf hf; (try simp only [Nat.reduceAdd] at hf))))
local macro_rules | `(tactic| walk_at "binaryOp Div int int") => `(tactic| (k_dflt (refine' w_div_ii ?fA ?fb ?f0 ?fk ?_; (case fA => rfl); (case fb => kwd_inv); (case f0 => decide); (case fk => decide); intro zf hf)))
local macro_rules | `(tactic| walk_at "call builtin:math.floor") => `(tactic| (k_dflt (refine' w_floor ?fA ?fa ?_; (case fA => rfl); (case fa => kwd_rel); intro zf hf1 hf2)))
local macro_rules | `(tactic| walk_at "call builtin:math.trunc") => `(tactic| (k_dflt (refine' w_trunc ?fA ?fa ?_; (case fA => rfl); (case fa => kwd_rel); intro zf hf1 hf2)))
local macro_rules | `(tactic| walk_at "call type:int") => `(tactic| (k_dflt (refine' w_int ?fA ?fa ?_; (case fA => rfl); (case fa => kwd_rel); intro zf hf1 hf2)))

-- a def entered where the frames' number is a letter
local macro_rules | `(tactic| walk_at "call ref") => `(tactic| (k_here; k_dflt (refine wpAny_call ?_; (refine' code_def ?k1 ?k2 ?k3 ?k4 ?k5 ?kA ?kF ?kK ?k6 ?k7 ?k8 ?k9 ?kB ?_ ?c2 ?c3 ?c4 ?c5; (case kA => exact rfl); (case kF => exact rfl); (case kK => first | exact rfl | assumption); (case k1 => k_asm); (case k2 => k_asm); (case k3 => k_asm); (case k4 => k_asm); (case k5 => k_asm); (case k6 => k_is); (case k7 => k_is); (case k8 => ktr_room); (case k9 => exact BindsTo.of_eq rfl); (case c5 => decide); (case kB => exact locs rfl); (case c2 => exact rfl); (case c3 => exact rfl); (case c4 => exact rfl); k_whole; intro g' L' h' FG' F' N' B' X' T'; (try dsimp only); (try k_lift B'); (try k_fold)))))

local macro_rules | `(tactic| walk_at "compareOp In int ref") => `(tactic| (k_here; k_dflt (refine' in30 ?k1 ?k2 ?_; (case k1 => k_asm); (case k2 => k_asm)); intro b9))
local macro_rules | `(tactic| walk_at "binaryOp Div int float") => `(tactic| (k_dflt (refine' w_div_if ?fA ?fb ?fc ?fk ?_; (case fA => rfl); (case fb => kwd_inv); (case fc => exact lit_ge1 (by decide +kernel)); (case fk => decide); intro zf hf)))
local macro_rules | `(tactic| walk_at "eval Call") => `(tactic| refine Call_ ?_)
local macro_rules | `(tactic| walk_at "JEnd") => `(tactic| (k_dflt (first
  | (refine' jend_st ?jF ?jN ?j1 ?j2; (case jF => with_reducible assumption); (case jN => with_reducible assumption); (case j1 => omega); (case j2 => omega))
  | (refine' jend_no ?jF ?jm ?jN ?j1 ?j2; (case jF => with_reducible assumption); (case jm => rfl); (case jN => with_reducible assumption); (case j1 => omega); (case j2 => omega)))))
local macro_rules | `(tactic| walk_at "exec If") => `(tactic| (k_here; (rename Fr _ _ _ _ => cF'); (rename News _ _ _ _ => cN'); k_dflt (first
  | ((with_reducible show wpAny _ _ (exec (Stmt.If (Expr.UnaryOp _ _ _) _ _ _) _) _ _ _); (refine' join_int (Str.ofString "year") 60 cF' cN' ?_ ?_))
  | ((with_reducible show wpAny _ _ (exec (Stmt.If (Expr.Compare (Expr.Name (Str.ofString "yearday") _) _ _ _) _ _ _) _) _ _ _); (refine' join_int (Str.ofString "leap_adj") 2 cF' cN' ?_ ?_))
  | ((with_reducible show wpAny _ _ (exec (Stmt.If (Expr.Compare (Expr.Name (Str.ofString "e") _) _ _ _) _ _ _) _) _ _ _); (refine' join_int (Str.ofString "month") 130 cF' cN' ?_ ?_))
  | ((with_reducible show wpAny _ _ (exec (Stmt.If (Expr.Compare (Expr.Name (Str.ofString "month") _) [CmpOp.Gt] _ _) _ _ _) _) _ _ _); (refine' join_int (Str.ofString "year") 100 cF' cN' ?_ ?_))
  | ((with_reducible show wpAny _ _ (exec (Stmt.If (Expr.Compare (Expr.Name (Str.ofString "month") _) [CmpOp.LtE] _ _) _ _ _) _) _ _ _); (refine' join_int (Str.ofString "leap_adj") 2 cF' cN' ?_ ?_))); rotate_left; (clear cF' cN'; intro h9 tk9 y9 t9 F9 N9 hb9 hc9; (try dsimp only)); rotate_right; (refine wpAny_If ?_); (try k_fold)))
local macro_rules | `(tactic| walk_at "call ref") => `(tactic| (k_here; k_dflt (refine' use (c_isleap _ _ _ _ _ _ _) ?k1 ?k2 ?k3 ?k4 ?k5 ?k6 ?kd ?ku ?_; (case k1 => k_asm); (case k2 => k_asm); (case k3 => k_asm); (case k4 => k_asm); (case k5 => k_asm); (case k6 => first | exact rfl | assumption); (case kd => ktr_room); (case ku => ktr_units)); (intro v9 h9 tk9 hP9 F9 N9; subst hP9); (try dsimp only); (try k_fold)))

local macro_rules | `(tactic| walk_at "call ref") => `(tactic| (k_here; k_dflt (refine' use (c_legal _ _ _ _ _ _ _ _ _ _) ?k1 ?k2 ?k3 ?k4 ?k5 ?k6 ?kd ?ku ?_; (case k1 => k_asm); (case k2 => k_asm); (case k3 => k_asm); (case k4 => k_asm); (case k5 => k_asm); (case k6 => first | exact rfl | assumption); (case kd => ktr_room); (case ku => ktr_units)); (intro v9 h9 tk9 hP9 F9 N9; subst hP9); (try dsimp only); (try k_fold)))
local macro_rules | `(tactic| walk_at "call ref") => `(tactic| (k_here; k_dflt (refine' use (c_jdg2 _ _ _ _ _ _ _ _ _ _ ?ky1 ?ky2 ?km1 ?km2) ?k1 ?k2 ?k3 ?k4 ?k5 ?k6 ?kd ?ku ?_; (case k1 => k_asm); (case k2 => k_asm); (case k3 => k_asm); (case k4 => k_asm); (case k5 => k_asm); (case k6 => first | exact rfl | assumption); (case kd => ktr_room); (case ku => ktr_units); (case ky1 => first | assumption | omega); (case ky2 => first | assumption | omega); (case km1 => first | assumption | omega); (case km2 => first | assumption | omega)); (intro v9 h9 tk9 hP9 F9 N9; obtain ⟨z9, t9, e9, hz9⟩ := hP9; subst e9); (try dsimp only); (try k_fold)))
local macro_rules | `(tactic| walk_at "call ref") => `(tactic| (k_here; k_dflt (refine' use (c_jdg _ _ _ _ _ _ _ _ _ _ ?ky1 ?ky2 ?km1 ?km2) ?k1 ?k2 ?k3 ?k4 ?k5 ?k6 ?kd ?ku ?_; (case k1 => k_asm); (case k2 => k_asm); (case k3 => k_asm); (case k4 => k_asm); (case k5 => k_asm); (case k6 => first | exact rfl | assumption); (case kd => ktr_room); (case ku => ktr_units); (case ky1 => first | assumption | omega); (case ky2 => first | assumption | omega); (case km1 => first | assumption | omega); (case km2 => first | assumption | omega)); (intro v9 h9 tk9 hP9 F9 N9; obtain ⟨z9, t9, e9, hz9⟩ := hP9; subst e9); (try dsimp only); (try k_fold)))
theorem c_fjg (w : World) (loose : List Str) (mean : ExcName → Option Value) (mg mb : Str → Option Value) (x : UInt64) (t : Tok) (hx : Bd x 44) :
    Claim w loose mean mg mb 4 83 [.float x t] (fun v => ∃ a, v = .ref a) := by
  unfold Claim
  k_fill
  dsimp only [Ret]
  intros
  rename_i hret
  refine wpAny_call ?_
  k_dflt cell_enter
  k_steps
  all_goals (refine hret _ _ _ ?eP ?eF ?eN; (case eF => with_reducible assumption); (case eN => first | with_reducible assumption | (refine' cb_drop ?cbN ?cbS; (case cbN => with_reducible assumption); (case cbS => exact fun _ hp => List.mem_cons_of_mem _ hp))); (case eP => exact ⟨_, rfl⟩))
end
section
theorem walk_MClaim2 : True := by
  w_top off
  trivial
local macro_rules | `(tactic| walk_at "spare line") => `(tactic| skip)
/-- a def called from the law's own frame -/
abbrev Claim2 (w : World) (loose : List Str) (mean : ExcName → Option Value) (mg mb : Str → Option Value) (f : Addr) (vs : List Value) (P : Value → Prop) : Prop :=
  ∀ (news : List (Addr × Obj)) (cn : Str) (cs : Scope) (a : Addr) (ccd : Value) (h₀ : Heap) (L : Addr) (m : Str → Option Value) (s : Shared) (Q E : Value → Shared → Prop),
    Below callerA h₀ [] h₀ → Fr h₀ L s.heap m → (Mine.hd.heap_39 w.params).In h₀ → News h₀ L s.heap news → Top Mine.hd.view_39 loose mean mg mb h₀ → cs.kind = .function → Ret h₀ L m news s Q P →
      wpAny (model PySem.Challenge.rw_bb6041_01.row.prog w) (callerA.deeper (envOf cn cs L a ccd)) (call (.ref f) vs) Q E s
/-- a def that may raise ValueError (then X is so) -/
abbrev Claim3 (w : World) (loose : List Str) (mean : ExcName → Option Value) (mg mb : Str → Option Value) (dep : Nat) (f : Addr) (vs : List Value) (P : Value → Prop) (X : Prop) : Prop :=
  ∀ (news : List (Addr × Obj)) (dp un : Nat) (gd : Option (List Code)) (cn : Str) (cs : Scope) (a : Addr) (ccd : Value) (outer : List Env) (A₀ : Around) (base h₀ : Heap) (L : Addr) (m : Str → Option Value) (s : Shared) (Q E : Value → Shared → Prop),
    (Mine.hd.heap_39 w.params).In base → Top Mine.hd.view_39 loose mean mg mb base → KtsDicts (outer.filterMap (·.frame)) h₀ →
      Below A₀ base outer h₀ → Fr h₀ L s.heap m → (Mine.hd.heap_39 w.params).In h₀ → News h₀ L s.heap news → Top Mine.hd.view_39 loose mean mg mb h₀ → cs.kind = .function →
      dp + dep < recursionLimit → un + 8 * dep < cLine → Ret h₀ L m news s Q P →
      (∀ (e : Addr) (g h' : Heap) (tk : Nat), X → Fr h₀ L g m → RaisedSN base g (envOf cn cs L a ccd :: outer) e (.type "ValueError") news h' → g.UpToSlots h' → E (.ref e) { s with heap := h', toks := tk }) →
      wpAny (model PySem.Challenge.rw_bb6041_01.row.prog w) { handled := none, depth := dp, frames := some (envOf cn cs L a ccd :: outer), guards := gd, units := un } (call (.ref f) vs) Q E s

/-- the law's words, and whether the way is the fixed one -/
inductive IsWord : Value → Bool → Prop
  | n : IsWord .none false
  | e (t : Tok) : IsWord (.str (Str.ofString "") t) false
  | o (t : Tok) : IsWord (.str (Str.ofString "other") t) false
  | s1 (t : Tok) : IsWord (.str (Str.ofString "sarkawag") t) true
  | s2 (t : Tok) : IsWord (.str (Str.ofString "Sarkawag") t) true
  | s3 (t : Tok) : IsWord (.str (Str.ofString "SARKAWAG") t) true
/-- a month's length by the law's table -/
def lawLen (f : Bool) (y m : Int) : Int :=
  if m < 1 ∨ m > 13 ∨ y < (if f = true then 533 else 1) then 0 else if m < 13 then 30 else if f = true ∧ Int.fmod y 4 = 0 then 6 else 5
abbrev Due (f : Bool) (y m d : Int) : Prop := 1 ≤ d ∧ d ≤ lawLen f y m
end
section
theorem walk_MExc1 : True := by
  w_top off
  trivial
section
open PySem.Calls
theorem entry_unchain : entryFor table "proto.unchain" = some Builtin.«proto.unchain» := entryFor_of_fast (by kernel_rfl)

section
variable {M : Model} {A : Around} {E : Value → Shared → Prop} {s : Shared}
theorem isType_rec {a : Addr} {o : Obj} {vs : Array Value} {Q : Bool → Shared → Prop} (ho : s.heap.get? a = some o) (hd : o.data = .fields vs) (h : Q false s) : wpAny M A (isType (.ref a)) Q E s := by
  show wpAny M A (do return match (← loadHead a).data with | .cls _ => true | _ => false) Q E s
  unfold loadHead
  refine wpAny_bind (wpAny_loadPart ho ?_)
  rw [hd]
  exact wpAny_pure h
end

section
variable {prog : Program} {w : World} {A : Around} {E : Value → Shared → Prop} {s : Shared} {env : Env}
theorem raise_from {x n : Str} {np cp pos : Pos} {Q : Flow → Shared → Prop} {e : Addr} {oe : Obj} {vs : Array Value} {X : String} (hh : A.handled = some (.ref e))
    (hx : wpAny (model prog w) A (eval (.Name x np) env) (fun v s₁ => v = .type "ValueError" ∧ s₁ = s) E s)
    (hn : wpAny (model prog w) A (eval (.Name n cp) env) (fun v s₁ => v = .ref e ∧ s₁ = s) E s)
    (he : s.heap.get? e = some oe) (hec : oe.cls = .type X) (hed : oe.data = .fields vs) (h2 : vs[2]? = some .none) (hXb : isSubtype (.type X) (.type "BaseException") = pure true)
    (h : ∀ h1 e2 t2 ob2, (∀ b o, s.heap.get? b = some o → h1.get? b = some o) → s.heap.get? e2 = none → h1.get? e2 = some ob2 → ob2.cls = .type "ValueError" →
      ob2.data = .fields #[t2, .none, .ref e, .ref e, .bool true, .none] → E (.ref e2) { s with heap := h1 }) :
    wpAny (model prog w) A (exec (.Raise (some (.Name x np)) (some (.Name n cp)) pos) env) Q E s := by
  have hc := excClass_ValueError
  have hself : isSubtype (.type "ValueError") (.type "ValueError") = pure true := by rw [isSubtype_type]; kernel_rfl
  show wpAny (model prog w) A (do standAt pos; raiseStmt env (some (do let v ← eval (.Name x np) env; standAt pos; pure v)) (some (do let v ← eval (.Name n cp) env; standAt pos; pure v))) Q E s
  refine wpAny_bind (wpAny_standAt ?_)
  unfold raiseStmt
  dsimp only
  refine wpAny_bind (wpAny_bind (wpAny_mono hx (fun v s₁ h₁ => wpAny_bind (wpAny_standAt (wpAny_pure ?_))) fun _ _ e => e))
  obtain ⟨rfl, hs₁⟩ := h₁
  subst s₁
  refine wpAny_bind (wpAny_bind (wpAny_mono hn (fun v s₁ h₁ => wpAny_bind (wpAny_standAt (wpAny_pure ?_))) fun _ _ e => e))
  obtain ⟨rfl, hs₁⟩ := h₁
  subst s₁
  refine wpAny_bind (wpAny_pure ?_)
  dsimp only
  refine wpAny_bind (wpAny_holding ?_)
  unfold excFromValue isExcClass
  refine wpAny_bind (wpAny_bind (wpAny_pure ?_))
  simp only [if_true]
  rw [hc.base]
  refine wpAny_pure ?_
  simp only [if_true]
  refine wpAny_bind (call_exc hc fun h' e2 hn2 => ?_)
  obtain ⟨ob, t, he2, hcls, hd⟩ := hn2.there
  have hT : ({ s with heap := h' } : Shared).TypeIs (.ref e2) "ValueError" := ⟨ob, he2, hcls⟩
  refine wpAny_bind (wpAny_isInstance hT hc.base ?_)
  simp only [Bool.not_true, Bool.false_eq_true, if_false]
  refine wpAny_pure ?_
  have hne : e ≠ e2 := fun q => by rw [q, hn2.new] at he; cases he
  have he' : h'.get? e = some oe := hn2.keeps _ _ he
  rw [if_neg (by simp)]
  refine wpAny_bind (wpAny_holding (wpAny_bind ?_))
  refine wpAny_bind (isType_rec (s := { s with heap := h' }) he' hed ?_)
  simp only [Bool.false_eq_true, if_false]
  refine wpAny_pure ?_
  have hTe : ({ s with heap := h' } : Shared).TypeIs (.ref e) X := ⟨oe, he', hec⟩
  refine wpAny_bind (wpAny_isInstance hTe hXb ?_)
  simp only [if_true]
  refine wpAny_pure ?_
  refine wpAny_bind (wpAny_setField (s := { s with heap := h' }) he2 hd (by simp) ?_)
  have hd3 := Obj.data_mapFields hd (·.setIfInBounds 3 (Value.ref e))
  have he3 := Heap.get?_update_self (Obj.mapFields (·.setIfInBounds 3 (Value.ref e))) he2 (Obj.isFreed_of_fields hd3)
  refine wpAny_bind (wpAny_setField (s := { s with heap := _ }) he3 hd3 (by simp) ?_)
  have hd4 := Obj.data_mapFields hd3 (·.setIfInBounds 4 (Value.bool true))
  have he4 := Heap.get?_update_self (Obj.mapFields (·.setIfInBounds 4 (Value.bool true))) he3 (Obj.isFreed_of_fields hd4)
  have hc4 : (Obj.mapFields (·.setIfInBounds 4 (Value.bool true)) (Obj.mapFields (·.setIfInBounds 3 (Value.ref e)) ob)).cls = .type "ValueError" := by
    rw [Obj.cls_mapFields, Obj.cls_mapFields]; exact hcls
  have keep4 : ∀ b o, s.heap.get? b = some o → ((h'.update e2 (Obj.mapFields (·.setIfInBounds 3 (Value.ref e)))).update e2 (Obj.mapFields (·.setIfInBounds 4 (Value.bool true)))).get? b = some o := fun b o hb => by
    have hbe : e2 ≠ b := fun q => by rw [← q, hn2.new] at hb; cases hb
    rw [Heap.get?_update_other _ _ hbe, Heap.get?_update_other _ _ hbe]
    exact hn2.keeps _ _ hb
  generalize hH : (h'.update e2 (Obj.mapFields (·.setIfInBounds 3 (Value.ref e)))).update e2 (Obj.mapFields (·.setIfInBounds 4 (Value.bool true))) = H at *
  have hT4 : ({ s with heap := H } : Shared).TypeIs (.ref e2) "ValueError" := ⟨_, he4, hc4⟩
  refine wpAny_bind (m := isType (.type "ValueError")) (wpAny_pure ?_)
  rw [if_pos rfl]
  refine wpAny_bind (wpAny_holding ?_)
  unfold raisedFor
  simp only [Bool.false_eq_true, if_false]
  refine wpAny_bind (wpAny_bind (wpAny_loadPart he4 (wpAny_pure ?_)))
  rw [hc4]
  refine wpAny_bind (call_issubclass (issubclass_self hc hself) ?_)
  dsimp only [wants]
  refine wpAny_bind (wpAny_truthy_bool ?_)
  simp only [if_true]
  refine wpAny_pure ?_
  unfold setFlight raiseNew
  refine wpAny_bind (wpAny_bind (wpAny_field (i := 1) (x := Value.none) he4 hd4 (by simp) ?_))
  rw [if_neg (by decide)]
  refine wpAny_pure (wpAny_bind (wpAny_handled ?_))
  rw [hh]
  dsimp only
  rw [if_pos (show (Value.ref e != Value.ref e2) = true from by simpa using hne)]
  refine wpAny_bind (wpAny_holding (wpAny_runValue (codeAny_builtin entry_unchain ?_)))
  unfold Builtin.«proto.unchain»
  dsimp only
  refine wpAny_bind (wpAny_field (i := 2) (x := Value.none) (s := { s with heap := H }) (keep4 _ _ he) hed h2 ?_)
  rw [if_pos (show (Value.none == Value.none) = true from rfl)]
  unfold ret
  refine wpAny_pure ?_
  dsimp only
  have hup : ∀ {Q' : Unit → Shared → Prop}, Q' () { s with heap := H.update e2 (Obj.mapFields (·.setIfInBounds 2 (Value.ref e))) } → wpAny (model prog w) A (updateField e2 2 (Value.ref e)) Q' E { s with heap := H } := fun hq =>
    wpAny_setField (s := { s with heap := H }) he4 hd4 (by simp) hq
  refine wpAny_bind (hup (wpAny_throw ?_))
  have hd5 := Obj.data_mapFields hd4 (·.setIfInBounds 2 (Value.ref e))
  have he5 := Heap.get?_update_self (Obj.mapFields (·.setIfInBounds 2 (Value.ref e))) he4 (Obj.isFreed_of_fields hd5)
  refine h _ e2 t _ (fun b o hb => ?_) hn2.new he5 ?_ ?_
  · have hbe : e2 ≠ b := fun q => by rw [← q, hn2.new] at hb; cases hb
    rw [Heap.get?_update_other _ _ hbe]
    exact keep4 b o hb
  · rw [Obj.cls_mapFields]; exact hc4
  · rw [hd5]; simp
end
end
end
section
theorem walk_MExc2 : True := by
  w_top off
  trivial
local macro_rules | `(tactic| walk_at "spare line") => `(tactic| skip)
local macro_rules | `(tactic| walk_at "spare line") => `(tactic| skip)
section
section
variable {M : Model} {A : Around} {E : Value → Shared → Prop} {s : Shared}

/-- an exception at hand: its object, its first traceback entry, what stands below -/
structure Exc1 (B : Heap) (l : List Env) (e : Addr) (cls : Value) (vs : Array Value) (T : Addr) (fl : Value) (h : Heap) : Prop where
  stays : B.StaysIn h
  eB : B.get? e = none
  TB : B.get? T = none
  ne : T ≠ e
  fr : h.FunFrames B l
  obj : ∃ oe, h.get? e = some oe ∧ oe.cls = cls ∧ oe.data = .fields vs
  tb : vs[1]? = some (.ref T)
  tob : ∃ oT ts, h.get? T = some oT ∧ oT.data = .fields ts ∧ ts[3]? = some fl

theorem Exc1.held {B : Heap} {l : List Env} {e T L : Addr} {cls a0 : Value} {vs : Array Value} {h : Heap} (x : Exc1 B l e cls vs T (rawInt L) h) (h0 : vs[0]? = some a0) : Heap.HeldW B l e cls a0 L h := by
  obtain ⟨oe, he, hc, hd⟩ := x.obj
  obtain ⟨oT, ts, hT, hdT, h3⟩ := x.tob
  exact ⟨x.stays, x.eB, x.fr, oe, vs, T, oT, ts, he, ⟨hc, h0⟩, hd, x.tb, x.TB, x.ne, hT, hdT, h3⟩

/-- all but one place stays, up to the slots -/
def UpBut (L : Addr) (h h' : Heap) : Prop := ∀ b o, b ≠ L → h.get? b = some o → (∀ vs, o.data ≠ .fields vs) → ∃ sl, h'.get? b = some { o with slots := sl }
theorem UpBut.trans {L : Addr} {h₁ h₂ h₃ : Heap} (x : UpBut L h₁ h₂) (y : UpBut L h₂ h₃) : UpBut L h₁ h₃ := fun b o n e q => by
  obtain ⟨sl, e2⟩ := x b o n e q
  obtain ⟨sl2, e3⟩ := y b _ n e2 q
  exact ⟨sl2, e3⟩
theorem UpBut.of_up {L : Addr} {h₁ h₂ : Heap} (x : h₁.UpToSlots h₂) : UpBut L h₁ h₂ := fun b o _ e q => x b o e q
theorem UpBut.of_same {L : Addr} {h₁ h₂ : Heap} (x : Heap.SameBut L h₁ h₂) : UpBut L h₁ h₂ := fun b o n e _ => ⟨o.slots, (x.2 b n).trans e⟩
theorem UpBut.of_keeps {L : Addr} {h₁ h₂ : Heap} (x : ∀ b o, h₁.get? b = some o → h₂.get? b = some o) : UpBut L h₁ h₂ := fun b o _ e _ => ⟨o.slots, x b o e⟩

theorem frames_move {h h' B : Heap} (k : ∀ b o, h.get? b = some o → (∀ vs, o.data ≠ .fields vs) → ∃ o', h'.get? b = some o' ∧ ∀ vs, o'.data ≠ .fields vs) : ∀ {l : List Env}, h.FunFrames B l → h'.FunFrames B l
  | [], _ => trivial
  | _ :: _, ⟨hk, ⟨L, o, hf, hn, ho, hd⟩, hr⟩ => by
    obtain ⟨o', ho', hd'⟩ := k L o ho hd
    exact ⟨hk, ⟨L, o', hf, hn, ho', hd'⟩, frames_move k hr⟩

/-- the frame's own names turn -/
theorem Exc1.turn {B : Heap} {l : List Env} {e T L : Addr} {cls fl : Value} {vs : Array Value} {h h' : Heap} {m : Str → Option Value} (x : Exc1 B l e cls vs T fl h) (hs : Heap.SameBut L h h') (hn : h'.Ns L m) (hBL : B.get? L = none) (hL : ∃ o, h.get? L = some o ∧ ∀ vs, o.data ≠ .fields vs) : Exc1 B l e cls vs T fl h' := by
  obtain ⟨oL, hoL, hdL⟩ := hL
  obtain ⟨oe, he, hc, hd⟩ := x.obj
  obtain ⟨oT, ts, hT, hdT, h3⟩ := x.tob
  have neL : e ≠ L := fun q => by rw [q, hoL] at he; injection he with he; subst he; exact hdL _ hd
  have nTL : T ≠ L := fun q => by rw [q, hoL] at hT; injection hT with hT; subst hT; exact hdL _ hdT
  refine ⟨fun b o hb => ?_, x.eB, x.TB, x.ne, frames_move (fun b o hb hq => ?_) x.fr, ⟨oe, (hs.2 e neL).trans he, hc, hd⟩, x.tb, ⟨oT, ts, (hs.2 T nTL).trans hT, hdT, h3⟩⟩
  · exact (hs.2 b fun q => by rw [q, hBL] at hb; cases hb).trans (x.stays b o hb)
  · by_cases hbL : b = L
    · subst hbL
      obtain ⟨o', es, ep, ho', hd', _⟩ := hn
      exact ⟨o', ho', fun vs q => by rw [hd'] at q; cases q⟩
    · exact ⟨o, (hs.2 b hbL).trans hb, hq⟩

/-- an exception's mark of flight is set -/
theorem Exc1.flight {B : Heap} {l : List Env} {e T : Addr} {cls fl : Value} {vs : Array Value} {f : Option Addr} {Q : Unit → Shared → Prop} (x : Exc1 B l e cls vs T fl s.heap)
    (h : ∀ h', Exc1 B l e cls vs T (f.elim .none fun a => rawInt a) h' → s.heap.UpToSlots h' → Q () { s with heap := h' }) : wpAny M A (setFlight (.ref e) f) Q E s := by
  obtain ⟨oe, he, hc, hd⟩ := x.obj
  obtain ⟨oT, ts, hT, hdT, h3⟩ := x.tob
  have hsz3 : 3 < ts.size := (Array.getElem?_eq_some_iff.mp h3).1
  unfold setFlight
  refine wpAny_bind (wpAny_field he hd x.tb ?_)
  rw [if_pos (show (Value.ref T != Value.none) = true from by simp)]
  have other : ∀ b, b ≠ T → (s.heap.update T (Obj.mapFields (·.setIfInBounds 3 (f.elim Value.none fun a => rawInt a)))).get? b = s.heap.get? b := fun b hb => Heap.get?_update_other _ _ (Ne.symm hb)
  have noRec : ∀ b o, s.heap.get? b = some o → (∀ vs, o.data ≠ .fields vs) → b ≠ T := fun b o hb hnf q => by
    rw [q, hT] at hb; injection hb with hb; subst hb; exact hnf ts hdT
  refine wpAny_setField hT hdT hsz3 (h _ ⟨fun b o hb => ?_, x.eB, x.TB, x.ne, ?_, ⟨oe, (other e (Ne.symm x.ne)).trans he, hc, hd⟩, x.tb, ?_⟩ fun b o hb hq => ⟨o.slots, (other b (noRec b o hb hq)).trans hb⟩)
  · exact (other b fun q => by rw [q, x.TB] at hb; cases hb).trans (x.stays b o hb)
  · exact frames_move (fun b o hb hq => ⟨o, (other b (noRec b o hb hq)).trans hb, hq⟩) x.fr
  · exact ⟨_, _, Heap.get?_update_self _ hT (Obj.isFreed_of_fields (Obj.data_mapFields hdT _)), Obj.data_mapFields hdT _, by simp [hsz3]⟩

/-- a new exception is noted by the frame at hand -/
theorem note_new {B : Heap} {env : Env} {outer : List Env} {L e : Addr} {oe : Obj} {vs : Array Value} {Q : Unit → Shared → Prop}
    (hfr : A.frames = some (env :: outer)) (hl : s.heap.FunFrames B (env :: outer)) (hf : env.frame = some L)
    (he : s.heap.get? e = some oe) (hkb : B.StaysIn s.heap) (hen : B.get? e = none) (hd : oe.data = .fields vs) (h1 : vs[1]? = some .none)
    (h : ∀ h' T, Exc1 B (env :: outer) e oe.cls (vs.setIfInBounds 1 (.ref T)) T (rawInt L) h' → s.heap.UpToSlots h' → Q () { s with heap := h' }) :
    wpAny M A (noteFrame (.ref e) env) Q E s := by
  have hsz : 1 < vs.size := (Array.getElem?_eq_some_iff.mp h1).1
  have hene : e ∉ (env :: outer).filterMap (·.frame) := fun hm => by
    obtain ⟨_, o, ho, hnf⟩ := hl.mem hm
    rw [he] at ho; injection ho with ho; subst ho; exact hnf vs hd
  unfold noteFrame
  simp only [hf]
  refine wpAny_bind (wpAny_field he hd h1 ?_)
  rw [if_neg (by decide)]
  refine wpAny_bind (wpAny_frameOf_fun hfr hl hf fun h₁ hs₁ => ?_)
  refine wpAny_bind (wpAny_entryPlaceOf fun pl hpl => ?_)
  unfold EntryCells.newEntry newFields
  refine wpAny_bind (wpAny_newObj_type ?_ (hpl.sizeOk5 _ _ _ _ _))
  have he₁ : h₁.get? e = some oe := (hs₁.2.1 e hene).trans he
  have kb₁ : B.StaysIn h₁ := fun b o hbo => (hs₁.2.1 b fun hm => by rw [(hl.mem hm).1] at hbo; cases hbo).trans (hkb b o hbo)
  generalize hTB : ({ cls := .type "traceback", dict := none, data := .fields ([Value.none, .ref L, .none, rawInt L, .none] ++ (if pl.isEmpty then List.replicate 6 Value.none else pl)).toArray } : Obj) = tbo
  have he₂ := Heap.get?_push_of_some (h := h₁) tbo he₁
  have hTe : h₁.objs.size ≠ e := Nat.ne_of_gt (Heap.lt_size he₁)
  have hd₃ := Obj.data_mapFields hd (·.setIfInBounds 1 (Value.ref h₁.objs.size))
  have he₃ := Heap.get?_update_self (Obj.mapFields (·.setIfInBounds 1 (Value.ref h₁.objs.size))) he₂ (Obj.isFreed_of_fields hd₃)
  have hTp : (h₁.push tbo).get? h₁.objs.size = some tbo := Heap.get?_push_size h₁ (by rw [← hTB]; rfl)
  have hT₃ := (Heap.get?_update_other (h₁.push tbo) (Obj.mapFields (·.setIfInBounds 1 (Value.ref h₁.objs.size))) (Ne.symm hTe)).trans hTp
  have keep : ∀ b o, b ≠ e → h₁.get? b = some o → ((h₁.push tbo).update e (Obj.mapFields (·.setIfInBounds 1 (Value.ref h₁.objs.size)))).get? b = some o := fun b o hbe hb => by
    rw [Heap.get?_update_other _ _ (Ne.symm hbe)]
    exact Heap.get?_push_of_some _ hb
  have noRec : ∀ b o, s.heap.get? b = some o → (∀ vs, o.data ≠ .fields vs) → b ≠ e := fun b o hb hnf q => by
    rw [q, he] at hb; injection hb with hb; subst hb; exact hnf vs hd
  refine wpAny_setField he₂ hd hsz (h _ h₁.objs.size ⟨fun b o hb => ?_, hen, kb₁.fresh, hTe, ?_, ⟨_, he₃, Obj.cls_mapFields _ _, hd₃⟩, by simp [hsz], ⟨tbo, _, hT₃, by rw [← hTB], ?_⟩⟩ fun b o hb hq => ?_)
  · exact keep b o (fun q => by rw [q, hen] at hb; cases hb) (kb₁ b o hb)
  · refine frames_move (fun b o hb hq => ?_) hl
    obtain ⟨sl, hs⟩ := hs₁.2.2 b o hb
    exact ⟨_, keep b _ (noRec b o hb hq) hs, hq⟩
  · first | (simp; done) | (rcases hpl with rfl | ⟨_, _, _, _, _, _, _, rfl⟩ <;> simp)
  · obtain ⟨sl, hs⟩ := hs₁.2.2 b o hb
    exact ⟨sl, keep b _ (noRec b o hb hq) hs⟩
/-- noted again where it is held: nothing turns -/
theorem Exc1.again {B : Heap} {l : List Env} {env : Env} {e T L : Addr} {cls : Value} {vs : Array Value} {Q : Unit → Shared → Prop} (x : Exc1 B l e cls vs T (rawInt L) s.heap) (hf : env.frame = some L) (h : Q () s) :
    wpAny M A (noteFrame (.ref e) env) Q E s := by
  obtain ⟨oe, he, hc, hd⟩ := x.obj
  obtain ⟨oT, ts, hT, hdT, h3⟩ := x.tob
  unfold noteFrame
  simp only [hf]
  refine wpAny_bind (wpAny_field he hd x.tb ?_)
  rw [if_pos (show (Value.ref T != Value.none) = true from by simp)]
  refine wpAny_bind (wpAny_field hT hdT h3 ?_)
  rw [if_pos (show (rawInt L == rawInt L) = true from by simp)]
  exact wpAny_pure h
end
end
end
section
theorem walk_MExc3 : True := by
  w_top off
  trivial
local macro_rules | `(tactic| walk_at "spare line") => `(tactic| skip)
local macro_rules | `(tactic| walk_at "spare line") => `(tactic| skip)
local macro_rules | `(tactic| walk_at "spare line") => `(tactic| skip)
section
open PySem.Calls
section
variable {prog : Program} {w : World} {A₀ : Around} {E : Value → Shared → Prop} {s' : Shared} {base g h : Heap} {outer : List Env} {L a e : Addr} {m : Str → Option Value} {name : Str} {scope : Scope} {cd : Value}
  {n : Str} {pos np vp cp rp : Pos} {Q : Flow → Shared → Prop} {news : List (Addr × Obj)} {KF : Frag} {p : Program} {loose : List Str} {mean : ExcName → Option Value} {mg mb : Str → Option Value}

theorem caught_from (K : Below A₀ base outer g) (F : Fr g L h m) (N : News g L h news) (hx : Heap.NewExc h s'.heap e "AssertionError") (XB : KF.In base) (TB : Top p loose mean mg mb base)
    (ex1 : nsIn KF mainGlobals (Str.ofString "AssertionError") = some none) (ex2 : nsIn KF mainGlobals (Str.ofString "ValueError") = some none)
    (k : ∀ h' tk G m' e₂, RaisedHN base G (envOf name scope L a cd :: outer) L e₂ (.type "ValueError") news h' → Fr g L G m' → G.UpToSlots h' → E (.ref e₂) { s' with heap := h', toks := tk })
    (hk : scope.kind = .function := by rfl) (hlo : (envOf name scope L a cd).kindOf n = some .local := by rfl)
    (hk1 : (envOf name scope L a cd).kindOf (Str.ofString "AssertionError") = some .globalImplicit := by rfl) (hk2 : (envOf name scope L a cd).kindOf (Str.ofString "ValueError") = some .globalImplicit := by rfl)
    (hdn : (n == ("__debug__" : Str)) = false := by decide) :
    wpAny (model prog w) (A₀.deeper (envOf name scope L a cd)) (noteFrame (.ref e) (envOf name scope L a cd))
      (fun _ s₂ => wpAny (model prog w) (A₀.deeper (envOf name scope L a cd)) (setFlight (.ref e) none) (fun _ s₃ =>
        wpAny (model prog w) (A₀.deeper (envOf name scope L a cd)) (handleBy (.ref e) (envOf name scope L a cd)
          [.ExceptHandler (some (.Name (Str.ofString "AssertionError") np)) (some n) [.Raise (some (.Name (Str.ofString "ValueError") vp)) (some (.Name n cp)) rp] pos]) Q E s₃) E s₂) E s' := by
  have K' := K.push (name := name) (a := a) (cd := cd) F hk
  have hin : ∀ env ∈ (envOf name scope L a cd :: outer), ∀ b, env.frame = some b → b ∈ (envOf name scope L a cd :: outer).filterMap (·.frame) := fun env he b hb => List.mem_filterMap.mpr ⟨env, he, hb⟩
  have hLin : L ∈ (envOf name scope L a cd :: outer).filterMap (·.frame) := List.mem_filterMap.mpr ⟨_, .head _, rfl⟩
  have st : base.StaysIn (hideAll h ((envOf name scope L a cd :: outer).filterMap (·.frame))) := fun b o q => hideAll_get _ (K'.stays b o q) fun hm => by
    rw [(K'.frames.mem hm).1] at q; cases q
  have hl : ∀ q ∈ news, (hideAll h ((envOf name scope L a cd :: outer).filterMap (·.frame))).get? q.1 = some q.2 ∧ g.get? q.1 = none ∧ base.get? q.1 = none := fun q hq => by
    refine ⟨hideAll_get _ (N q hq).1 fun hm => ?_, (N q hq).2.2, fresh_of_stays K.stays (N q hq).2.2⟩
    obtain ⟨env, he, hf⟩ := List.mem_filterMap.mp hm
    rcases List.mem_cons.mp he with rfl | he
    · exact (N q hq).2.1 (Option.some.inj hf).symm
    · obtain ⟨o, ho, _⟩ := (K.frames.mem (List.mem_filterMap.mpr ⟨env, he, hf⟩)).2
      rw [(N q hq).2.2] at ho; cases ho
  have hBL : (hideAll h ((envOf name scope L a cd :: outer).filterMap (·.frame))).get? L = none := hideAll_none _ hLin
  have hBn : ∀ b, h.get? b = none → (hideAll h ((envOf name scope L a cd :: outer).filterMap (·.frame))).get? b = none := fun b hb => by
    cases q : (hideAll h ((envOf name scope L a cd :: outer).filterMap (·.frame))).get? b with
    | none => rfl
    | some o => have := of_hideAll _ q; rw [hb] at this; cases this
  have hBG : ∀ b o, h.get? b = some o → b ∉ (envOf name scope L a cd :: outer).filterMap (·.frame) → (hideAll h ((envOf name scope L a cd :: outer).filterMap (·.frame))).get? b = some o := fun b o q nm => hideAll_get _ q nm
  have hBh : (hideAll h ((envOf name scope L a cd :: outer).filterMap (·.frame))).StaysIn h := fun b o q => of_hideAll _ q
  have hFh : h.FunFrames (hideAll h ((envOf name scope L a cd :: outer).filterMap (·.frame))) (envOf name scope L a cd :: outer) := funFrames_hide K'.frames hin
  have hgL : g.get? L = none := kts_self F
  generalize hideAll h ((envOf name scope L a cd :: outer).filterMap (·.frame)) = B at *
  obtain ⟨oL, esL, epL, hoL, hdL, _⟩ := id F.ns
  -- what a heap in which the frame's names have turned stands for
  have hLn : L ∉ news.map (·.1) := fun q => by
    obtain ⟨x, hx, e⟩ := List.mem_map.mp q
    exact (N x hx).2.1 e
  have ground : ∀ (H : Heap) (m' : Str → Option Value), H.Ns L m' → UpBut L h H → ∃ G, Fr g L G m' ∧ G.UpToSlots H ∧ (∀ b o, G.get? b = some o → b ∉ (envOf name scope L a cd :: outer).filterMap (·.frame) → B.get? b = some o) ∧ ∀ q ∈ news, G.get? q.1 = none := by
    intro H m' hN hU
    obtain ⟨o, es, ep, ho, hd, r⟩ := id hN
    have hfree : o.isFreed = false := by
      have := (Heap.get?_some_iff.mp ho).2
      obtain ⟨c, d, dt, sl⟩ := o
      dsimp only at hd; subst hd; rfl
    have hG : (h.update L fun _ => o).get? L = some o := Heap.get?_update_self (fun _ => o) hoL hfree
    have hG2 : ∀ b, b ≠ L → (h.update L fun _ => o).get? b = h.get? b := fun b hb => Heap.get?_update_other h _ (Ne.symm hb)
    generalize h.update L (fun _ => o) = G1 at *
    refine ⟨hideAll G1 (news.map (·.1)), ⟨⟨o, es, ep, hideAll_get _ hG hLn, hd, r⟩, fun b o' hb => ?_, F.above⟩, fun b o' hb hq => ?_, fun b o' hb hm => ?_, fun q hq => hideAll_none _ (List.mem_map.mpr ⟨q, hq, rfl⟩)⟩
    · refine hideAll_get _ ((hG2 b fun q => by rw [q, hgL] at hb; cases hb).trans (F.keep b o' hb)) fun q => ?_
      obtain ⟨x, hx, e⟩ := List.mem_map.mp q
      rw [← e, (N x hx).2.2] at hb; cases hb
    · have hb := of_hideAll _ hb
      by_cases hbL : b = L
      · subst hbL
        rw [hG] at hb; injection hb with hb; subst hb
        exact ⟨o.slots, ho⟩
      · exact hU b o' hbL (by rw [hG2 b hbL] at hb; exact hb) hq
    · exact hBG b o' ((hG2 b fun q => hm (q ▸ hLin)).symm.trans (of_hideAll _ hb)) hm
  obtain ⟨ob, tp, he, hcls, hd⟩ := hx.there
  have hfr : (A₀.deeper (envOf name scope L a cd)).frames = some (envOf name scope L a cd :: outer) := K'.stack
  have hfrM : ((A₀.deeper (envOf name scope L a cd)).mark (some (.ref e))).frames = some (envOf name scope L a cd :: outer) := hfr
  refine note_new (B := B) hfr (frames_move (fun b o hb hq => ⟨o, hx.keeps b o hb, hq⟩) hFh) rfl he (fun b o hb => hx.keeps b o (hBh b o hb)) (hBn e hx.new) hd rfl fun H1 T x1 u1 => ?_
  rw [hcls] at x1
  refine x1.flight fun H2 x2 u2 => ?_
  have U2 : h.UpToSlots H2 := ((Heap.UpToSlots.of_keeps hx.keeps).trans u1).trans u2
  have hXe : isSubtype (.type "AssertionError") (.type "BaseException") = pure true := PySem.F.isExc_AssertionError
  have ns2 : H2.Ns L m := U2.ns F.ns
  obtain ⟨G2, F2, V2, W2, _⟩ := ground H2 m ns2 (UpBut.of_up U2)
  obtain ⟨g2, _, Fg2, Kg2⟩ := kts_ground K F2 W2 x2.stays V2
  obtain ⟨oe2, he2, hc2, hd2⟩ := x2.obj
  refine wpAny_handleBy_builtin_as (X := "AssertionError") (T := "AssertionError") (b := true) hXe PySem.F.notTuple_AssertionError (by rw [isSubtype_type]; kernel_rfl)
    (name_B Fg2 (XB.keeps Kg2.stays) (topRead_of (TB.keeps Kg2.stays)) ex1 PyProof.Rows.Boot.«AssertionError» (by decide) ⟨rfl, ⟨oe2, he2, hc2⟩, ?_⟩ hk hk1 (by decide))
  rw [if_pos rfl]
  have hp : ((envOf name scope L a cd).scope.kind == .class || ((envOf name scope L a cd).scope.kind == .module && (envOf name scope L a cd).locals != (envOf name scope L a cd).globals)) = false := by
    show (scope.kind == .class || (scope.kind == .module && L != mainGlobals)) = false
    rw [hk]; rfl
  have lives : ∀ (H : Heap) (m' : Str → Option Value), H.Ns L m' → ∃ o, H.get? L = some o ∧ ∀ vs, o.data ≠ .fields vs := fun H m' hN => by
    obtain ⟨o, es, ep, ho, hd, _⟩ := hN
    exact ⟨o, ho, fun vs q => by rw [hd] at q; cases q⟩
  refine Exc1.flight (s := { s' with heap := H2 }) (f := none) x2 fun H3 x3 u3 => ?_
  have ns3 : H3.Ns L m := u3.ns ns2
  refine wpAny_storeName_local hlo ns3 (fun H4 ns4 sb4 => ?_) hp
  have x4 := x3.turn sb4 ns4 hBL (lives _ _ ns3)
  have up4 : UpBut L h H4 := (UpBut.of_up (U2.trans u3)).trans (UpBut.of_same sb4)
  obtain ⟨G4, F4, V4, W4, _⟩ := ground H4 _ ns4 up4
  obtain ⟨g4, _, Fg4, Kg4⟩ := kts_ground K F4 W4 x4.stays V4
  obtain ⟨oe4, he4, hc4, hd4⟩ := x4.obj
  refine wpAny_execs_cons (raise_from (X := "AssertionError") (e := e) rfl
    (name_B Fg4 (XB.keeps Kg4.stays) (topRead_of (TB.keeps Kg4.stays)) ex2 PyProof.Rows.Boot.«ValueError» (by decide) ⟨rfl, rfl⟩ hk hk2 (by decide))
    (ld Fg4 (by simp) ⟨rfl, rfl⟩ hk hlo hdn) he4 hc4 hd4 (by simp) hXe fun H5 e2 t2 ob2 keep5 new5 he5 hc5 hd5 => ?_)
  have hB2 : B.get? e2 = none := by
    cases q : B.get? e2 with
    | none => rfl
    | some o => have := x4.stays _ _ q; rw [new5] at this; cases this
  refine note_new (B := B) hfrM (frames_move (fun b o hb hq => ⟨o, keep5 b o hb, hq⟩) x4.fr) rfl he5 (fun b o hb => keep5 b o (x4.stays b o hb)) hB2 hd5 rfl fun H6 T2 y6 u6 => ?_
  rw [hc5] at y6
  have U46 : H4.UpToSlots H6 := (Heap.UpToSlots.of_keeps keep5).trans u6
  have ns6 := U46.ns ns4
  refine wpAny_nameGoes_keeps hlo ns6 hp fun H7 v ns7 sb7 => ?_
  have y7 := y6.turn sb7 ns7 hBL (lives _ _ ns6)
  obtain ⟨oe7, he7, hc7, hd7⟩ := y7.obj
  unfold PySem.passOn
  refine wpAny_bind (wpAny_field he7 hd7 y7.tb ?_)
  rw [if_neg (show ¬ ((Value.ref T2 == Value.none) = true) from by simp)]
  refine wpAny_bind (Exc1.flight (f := some L) y7 fun H8 y8 u8 => wpAny_throw ?_)
  refine Exc1.again (L := L) y8 rfl ?_
  obtain ⟨oe8, he8, hc8, hd8⟩ := y8.obj
  unfold cameBackBy
  refine wpAny_bind (wpAny_field he8 hd8 y8.tb ?_)
  rw [if_neg (show ¬ ((Value.ref T2 == Value.none) = true) from by simp)]
  refine Exc1.flight (f := some L) y8 fun H9 y9 u9 => ?_
  have U79 : H7.UpToSlots H9 := u8.trans u9
  have ns9 := U79.ns ns7
  obtain ⟨G9, F9, V9, W9, Z9⟩ := ground H9 _ ns9 (((up4.trans (UpBut.of_up U46)).trans (UpBut.of_same sb7)).trans (UpBut.of_up U79))
  exact k H9 _ G9 _ e2 ⟨B, t2, st, W9, fun q hq => ⟨(hl q hq).1, Z9 q hq, (hl q hq).2.2⟩, y9.held (by simp)⟩ F9 V9
end
end
end
section
theorem walk_MLeap : True := by
  w_top off
  trivial
local macro_rules | `(tactic| walk_at "spare line") => `(tactic| skip)
local macro_rules | `(tactic| walk_at "spare line") => `(tactic| skip)
local macro_rules | `(tactic| walk_at "spare line") => `(tactic| skip)
local macro_rules | `(tactic| walk_at "spare line") => `(tactic| skip)
def leapS (y : Int) : Bool := if y < 533 then false else decide (Int.fmod y 4 = 0)
theorem leap_cases (y : Int) : (leapS y = true ∧ 533 ≤ y ∧ Int.fmod y 4 = 0) ∨ (leapS y = false ∧ (y < 533 ∨ Int.fmod y 4 ≠ 0)) := by
  unfold leapS
  split
  · exact .inr ⟨rfl, .inl (by assumption)⟩
  · by_cases h : Int.fmod y 4 = 0
    · exact .inl ⟨by simp [h], by omega, h⟩
    · exact .inr ⟨by simp [h], .inr h⟩
theorem c_leap (w : World) (loose : List Str) (mean : ExcName → Option Value) (mg mb : Str → Option Value) (y : Int) (t : Tok) :
    Claim w loose mean mg mb 1 105 [.int y t] (fun v => v = .bool (leapS y)) := by
  unfold Claim
  k_fill
  dsimp only [Ret]
  intros
  rename_i hret
  refine wpAny_call ?_
  k_dflt cell_enter
  k_steps
  all_goals (refine hret _ _ _ ?eP ?eF ?eN; (case eF => k_asm); (case eN => first | k_asm | (refine' cb_drop ?cbN ?cbS; (case cbN => assumption); (case cbS => kcj_all))); (case eP => (refine congrArg Value.bool ?_; unfold leapS; cb_eq)))
end
section
theorem walk_MValid : True := by
  w_top off
  trivial
local macro_rules | `(tactic| walk_at "spare line") => `(tactic| skip)
local macro_rules | `(tactic| walk_at "spare line") => `(tactic| skip)
local macro_rules | `(tactic| walk_at "eval Call") => `(tactic| ((with_reducible show wpAny _ _ (eval (Expr.Call (Expr.Name _ _) _ [] _) _) _ _ _); refine Call_ ?_))
local macro_rules | `(tactic| walk_at "noteFrame ref") => `(tactic| (k_here; (with_reducible rename Heap.NewExc _ _ _ _ => nxX); k_dflt (refine' caught_from ?cK ?cF ?cN nxX ?cX ?cT ?c1 ?c2 ?_; (case cK => assumption); (case cF => assumption); (case cN => assumption); (case cX => assumption); (case cT => assumption); (case c1 => k_is); (case c2 => k_is)); clear nxX; intro h' tk' G' m' e' R' F' U'; (try dsimp only)))
local macro_rules | `(tactic| walk_at "call ref") => `(tactic| (k_here; k_dflt (refine' use (c_leap _ _ _ _ _ _ _ ) ?k1 ?k2 ?k3 ?k4 ?k5 ?k6 ?kd ?ku ?_; (case k1 => k_asm); (case k2 => k_asm); (case k3 => k_asm); (case k4 => k_asm); (case k5 => k_asm); (case k6 => first | exact rfl | assumption); (case kd => ktr_room); (case ku => ktr_units)); (intro v9 h9 tk9 hP9 F9 N9; subst hP9); (try dsimp only); (try k_fold)))
theorem c_valid (w : World) (loose : List Str) (mean : ExcName → Option Value) (mg mb : Str → Option Value) (y m d : Int) (t1 t2 t3 : Tok) (v : Value) (f : Bool) (hw : IsWord v f) :
    Claim3 w loose mean mg mb 2 98 [.int y t1, .int m t2, .int d t3, v] (fun r => Due f y m d ∧ r = .bool true) (¬ Due f y m d) := by
  unfold Claim3
  k_fill
  dsimp only [Ret]
  cases hw
  all_goals (
    intros
    rename_i hret hexc
    refine wpAny_call ?_
    k_dflt (refine' code_defS ?k1 ?k2 ?k3 ?k4 ?k5 ?XB ?TB ?D ?T0 ?kA ?k6 ?k7 ?k8 ?k9 ?kB ?_ ?cK ?c2 ?c3 ?c4 ?c5; (case kA => exact rfl); (case k2 => k_asm); (case k1 => k_asm); (case XB => assumption); (case TB => assumption); (case D => assumption); (case T0 => exact KtsTurn.refl); (case k3 => k_asm); (case k4 => k_asm); (case k5 => k_asm); (case k6 => k_is); (case k7 => k_is); (case k8 => ktr_room); (case k9 => first | exact binds_K (by k_in) rfl (by k_is) rfl rfl rfl | exact BindsTo.of_eq rfl); (case kB => exact locs rfl); (case cK => first | assumption | exact rfl); (case c2 => exact rfl); (case c3 => exact rfl); (case c4 => exact rfl); (case c5 => decide); k_whole; intro g' L' h' FG' F' N' B' X' T' D'; (try dsimp only); (try k_lift B'); (try k_fold))
    k_steps)
  all_goals (first
    | (refine' hexc _ _ _ _ ?eX ?eF ?eR ?eU; (case eR => with_reducible assumption); (case eU => with_reducible assumption); (case eF => with_reducible assumption); (case eX => ((rcases leap_cases y with ⟨q1, q2, q3⟩ | ⟨q1, q2⟩) <;> first | (exfalso; exact Bool.noConfusion (Eq.trans (Eq.symm q1) (by with_reducible assumption : leapS y = true))) | (exfalso; exact Bool.noConfusion (Eq.trans (Eq.symm (by with_reducible assumption : leapS y = false)) q1)) | ((simp only [Due, lawLen, Bool.false_eq_true, if_false, if_true, false_and, true_and]); (repeat' split) <;> omega))))
    | (refine hret _ _ _ ?eP ?eF ?eN; (case eF => with_reducible assumption); (case eN => with_reducible assumption); (case eP => refine ⟨?_, rfl⟩; ((rcases leap_cases y with ⟨q1, q2, q3⟩ | ⟨q1, q2⟩) <;> first | (exfalso; exact Bool.noConfusion (Eq.trans (Eq.symm q1) (by with_reducible assumption : leapS y = true))) | (exfalso; exact Bool.noConfusion (Eq.trans (Eq.symm (by with_reducible assumption : leapS y = false)) q1)) | ((simp only [Due, lawLen, Bool.false_eq_true, if_false, if_true, false_and, true_and]); (repeat' split) <;> omega)))))
end
section
theorem walk_MUse3 : True := by
  w_top off
  trivial
local macro_rules | `(tactic| walk_at "spare line") => `(tactic| skip)
local macro_rules | `(tactic| walk_at "spare line") => `(tactic| skip)
local macro_rules | `(tactic| walk_at "spare line") => `(tactic| skip)
local macro_rules | `(tactic| walk_at "spare line") => `(tactic| skip)
local macro_rules | `(tactic| walk_at "spare line") => `(tactic| skip)
local macro_rules | `(tactic| walk_at "spare line") => `(tactic| skip)
theorem use3 {w : World} {loose : List Str} {mean : ExcName → Option Value} {mg mb : Str → Option Value} {dep : Nat} {f : Addr} {vs : List Value} {P : Value → Prop} {X : Prop} (C : Claim3 w loose mean mg mb dep f vs P X)
    {news : List (Addr × Obj)} {dp un : Nat} {gd : Option (List Code)} {cn : Str} {cs : Scope} {a : Addr} {ccd : Value} {outer : List Env} {A₀ : Around} {base h₀ : Heap} {L : Addr} {m : Str → Option Value} {s : Shared} {Q E : Value → Shared → Prop}
    (XB : (Mine.hd.heap_39 w.params).In base) (TB : Top Mine.hd.view_39 loose mean mg mb base) (D : KtsDicts (outer.filterMap (·.frame)) h₀)
    (B : Below A₀ base outer h₀) (F : Fr h₀ L s.heap m) (X₀ : (Mine.hd.heap_39 w.params).In h₀) (N : News h₀ L s.heap news) (T : Top Mine.hd.view_39 loose mean mg mb h₀) (hk : cs.kind = .function)
    (hd : dp + dep < recursionLimit) (hu : un + 8 * dep < cLine) (ret : Ret h₀ L m news s Q P)
    (exc : ∀ (e : Addr) (g h' : Heap) (tk : Nat), X → Fr h₀ L g m → RaisedSN base g (envOf cn cs L a ccd :: outer) e (.type "ValueError") news h' → g.UpToSlots h' → E (.ref e) { s with heap := h', toks := tk }) :
    wpAny (model PySem.Challenge.rw_bb6041_01.row.prog w) { handled := none, depth := dp, frames := some (envOf cn cs L a ccd :: outer), guards := gd, units := un } (call (.ref f) vs) Q E s :=
  C _ _ _ _ _ _ _ _ _ _ _ _ _ _ _ _ _ XB TB D B F X₀ N T hk hd hu ret exc
theorem due_bounds {f : Bool} {y m d : Int} (h : Due f y m d) : 1 ≤ y ∧ 1 ≤ m ∧ m ≤ 13 ∧ 1 ≤ d ∧ d ≤ 30 := by
  obtain ⟨h1, h2⟩ := h
  unfold lawLen at h2
  cases f
  · simp only [Bool.false_eq_true, if_false, false_and] at h2
    split at h2
    · omega
    · split at h2 <;> omega
  · simp only [if_true, true_and] at h2
    split at h2
    · omega
    · split at h2
      · omega
      · split at h2 <;> omega
theorem eq_word {prog : Program} {w : World} {A : Around} {E : Value → Shared → Prop} {s : Shared} {v : Value} {f : Bool} {t : Tok} {Q : Value → Shared → Prop} (hw : IsWord v f) (h : ∀ b, Q (.bool b) s) :
    wpAny (model prog w) A (compareOp .Eq v (.str (Str.ofString "sarkawag") t)) Q E s := by
  cases hw
  · exact EqNone.eq_none_str (h _)
  all_goals exact eq_str (h _)
section
variable {prog : Program} {w : World} {A : Around} {E : Value → Shared → Prop} {s : Shared} {h₀ : Heap} {L : Addr} {m : Str → Option Value} {news : List (Addr × Obj)} {l l2 : Addr} {its its2 : Array Value} {c c2 : Nat} {x : Int} {u : Tok} {Q : Value → Shared → Prop}
theorem fold_size (its : Array Value) : ∀ (k : Nat) (acc : Array Value), (List.foldl (fun x1 x2 => x1 ++ x2) acc (List.replicate k its)).size = acc.size + k * its.size
  | 0, acc => by simp
  | k + 1, acc => by
    rw [List.replicate_succ, List.foldl_cons, fold_size its k, Array.size_append, Nat.add_mul, Nat.one_mul]
    omega
theorem mulF (Fm : Fr h₀ L s.heap m) (N : News h₀ L s.heap ((l, listOf its c) :: news)) (h0 : 0 ≤ x) (h1 : x ≤ 7) (hs : its.size ≤ 1)
    (h : ∀ D h' its', Fr h₀ L h' m → News h₀ L h' ((D, listOf its' 0) :: news) → its'.size ≤ 7 → (∀ p ∈ news, p.1 < D) → Q (.ref D) { s with heap := h' }) : wpAny (model prog w) A (binaryOp .Mult (.ref l) (.int x u)) Q E s := by
  have hm : its.size * x.toNat ≤ 1 * 7 := Nat.mul_le_mul hs (by omega)
  refine mul_list Fm N (N _ (.head _)).1 (by omega) (by omega) (by omega) fun h' F' N' => ?_
  refine h s.heap.objs.size h' (List.foldl (fun x1 x2 => x1 ++ x2) #[] (List.replicate (if its.isEmpty = true then 0 else x.toNat) its)) F' ?_ ?_ (fun p hp => Heap.lt_size (N p (.tail _ hp)).1)
  · intro p hp
    rcases List.mem_cons.mp hp with rfl | hp
    · exact N' _ (.head _)
    · exact N' _ (.tail _ (.tail _ hp))
  · rw [fold_size]
    split
    · simp
    · have : x.toNat * its.size = its.size * x.toNat := Nat.mul_comm _ _
      simp only [List.size_toArray, List.length_nil]; omega
theorem mulFr (Fm : Fr h₀ L s.heap m) (N : News h₀ L s.heap ((l, listOf its c) :: news)) (h0 : 0 ≤ x) (h1 : x ≤ 7) (hs : its.size ≤ 1)
    (h : ∀ D h' its', Fr h₀ L h' m → News h₀ L h' ((D, listOf its' 0) :: news) → its'.size ≤ 7 → (∀ p ∈ news, p.1 < D) → Q (.ref D) { s with heap := h' }) : wpAny (model prog w) A (binaryOp .Mult (.int x u) (.ref l)) Q E s := by
  have hm : its.size * x.toNat ≤ 1 * 7 := Nat.mul_le_mul hs (by omega)
  refine mul_list_r Fm N (N _ (.head _)).1 (by omega) (by omega) (by omega) fun h' F' N' => ?_
  refine h s.heap.objs.size h' (List.foldl (fun x1 x2 => x1 ++ x2) #[] (List.replicate (if its.isEmpty = true then 0 else x.toNat) its)) F' ?_ ?_ (fun p hp => Heap.lt_size (N p (.tail _ hp)).1)
  · intro p hp
    rcases List.mem_cons.mp hp with rfl | hp
    · exact N' _ (.head _)
    · exact N' _ (.tail _ (.tail _ hp))
  · rw [fold_size]
    split
    · simp
    · have : x.toNat * its.size = its.size * x.toNat := Nat.mul_comm _ _
      simp only [List.size_toArray, List.length_nil]; omega
/-- two lists at the ledger's head, put together; they are dropped -/
theorem addF {rest : List (Addr × Obj)} (Fm : Fr h₀ L s.heap m) (N : News h₀ L s.heap ((l2, listOf its2 c2) :: (l, listOf its c) :: rest)) (hs : its.size ≤ 60) (hs2 : its2.size ≤ 60)
    (h : ∀ D h' its', Fr h₀ L h' m → News h₀ L h' ((D, listOf its' 0) :: rest) → its'.size = its.size + its2.size → (∀ p ∈ rest, p.1 < D) → Q (.ref D) { s with heap := h' }) : wpAny (model prog w) A (binaryOp .Add (.ref l) (.ref l2)) Q E s := by
  refine add_arrays (its := its) (its2 := its2) Fm N (News.isList N (.tail _ (.head _))) (News.isList N (.head _)) (fun h' F' N' => ?_) (by rw [sizeLine_eq]; omega)
  refine h s.heap.objs.size h' (its.toList ++ its2.toList).toArray F' ?_ ?_ (fun p hp => Heap.lt_size (N p (.tail _ (.tail _ hp))).1)
  · intro p hp
    rcases List.mem_cons.mp hp with rfl | hp
    · exact N' _ (.head _)
    · exact N' _ (.tail _ (.tail _ (.tail _ hp)))
  · simp
end
theorem mod7 {prog : Program} {w : World} {A : Around} {E : Value → Shared → Prop} {s : Shared} {a : Int} {t u : Tok} {Q : Value → Shared → Prop} (h : ∀ z : Int, 0 ≤ z → z ≤ 6 → Q (.int z s.toks) { s with toks := s.toks + 1 }) :
    wpAny (model prog w) A (binaryOp .Mod (.int a t) (.int 7 u)) Q E s := by
  refine mod_int' (by decide) (h _ ?_ ?_)
  · exact Int.fmod_nonneg_of_pos _ (by decide)
  · have := Int.fmod_lt_of_pos a (show (0 : Int) < 7 by decide)
    omega
theorem rsz {vs : List Value} {a : Int} {k : Nat} (h : IntsAre vs (rangeKs a k)) : vs.toArray.size = k := by rw [List.size_toArray, h.length, rangeKs_length]
theorem upd2 {L' D : Addr} {o o2 : Obj} {news : List (Addr × Obj)} (h : ∀ p ∈ news, p.1 < L') (hD : D ≠ L' + 1) :
    UpdF (L' + 1) o ((D, o2) :: (L' + 1, o) :: news) (fun o' => (D, o2) :: (L' + 1, o') :: news) :=
  .tail hD (.head fun p hp q => by
    have h1 := h p hp
    rw [q] at h1
    exact Nat.not_lt_of_le (Nat.le_succ L') h1)
end
section
theorem walk_MTold : True := by
  w_top off
  trivial
local macro_rules | `(tactic| walk_at "spare line") => `(tactic| skip)
local macro_rules | `(tactic| walk_at "spare line") => `(tactic| skip)
local macro_rules | `(tactic| walk_at "spare line") => `(tactic| skip)
local macro_rules | `(tactic| walk_at "spare line") => `(tactic| skip)
local macro_rules | `(tactic| walk_at "eval Call") => `(tactic| ((with_reducible show wpAny _ _ (eval (Expr.Call (Expr.Name _ _) _ [] _) _) _ _ _); refine Call_ ?_))
local macro_rules | `(tactic| walk_at "noteFrame ref") => `(tactic| (k_here; (with_reducible rename Heap.NewExc _ _ _ _ => nxX); k_dflt (refine' caught_from ?cK ?cF ?cN nxX ?cX ?cT ?c1 ?c2 ?_; (case cK => assumption); (case cF => assumption); (case cN => assumption); (case cX => assumption); (case cT => assumption); (case c1 => k_is); (case c2 => k_is)); clear nxX; intro h' tk' G' m' e' R' F' U'; (try dsimp only)))
local macro_rules | `(tactic| walk_at "call ref") => `(tactic| (k_here; k_dflt (refine' use3 (c_valid _ _ _ _ _ _ _ _ _ _ _ _ _ ?kw) ?kX ?kT ?kD ?k1 ?k2 ?k3 ?k4 ?k5 ?k6 ?kd ?ku ?_ ?_; (case k2 => k_asm); (case k1 => k_asm); (case k3 => k_asm); (case k4 => k_asm); (case k5 => k_asm); (case kX => assumption); (case kT => assumption); (case kD => assumption); (case k6 => first | exact rfl | assumption); (case kd => ktr_room); (case ku => ktr_units); (case kw => assumption)); rotate_left; (intro e9 g9 h9 tk9 hX9 F9 R9 U9; (try dsimp only)); rotate_right; (intro v9 h9 tk9 hP9 F9 N9; obtain ⟨hD9, e9⟩ := hP9; subst e9; (have hB9 := due_bounds hD9); obtain ⟨hB1, hB2, hB3, hB4, hB5⟩ := hB9; (try dsimp only))))
theorem c_told (w : World) (loose : List Str) (mean : ExcName → Option Value) (mg mb : Str → Option Value) (y m d : Int) (t1 t2 t3 : Tok) (v : Value) (f : Bool) (hw : IsWord v f) :
    Claim2 w loose mean mg mb 166 [.int y t1, .int m t2, .int d t3, v] (fun r => (Due f y m d ∧ r = .bool true) ∨ (¬ Due f y m d ∧ ∃ t, r = .str (Str.ofString "refused") t)) := by
  unfold Claim2
  k_fill
  dsimp only [Ret]
  intros
  rename_i hret
  refine wpAny_call ?_
  k_dflt (refine' code_defS0 ?k1 ?k2 ?k3 ?k4 ?k5 ?kA ?k6 ?k7 ?k8 ?k9 ?kB ?_ ?cK ?c2 ?c3 ?c4 ?c5; (case kA => exact rfl); (case k2 => k_asm); (case k1 => k_asm); (case k3 => k_asm); (case k4 => k_asm); (case k5 => k_asm); (case k6 => k_is); (case k7 => k_is); (case k8 => k_room); (case k9 => first | exact binds_K (by k_in) rfl (by k_is) rfl rfl rfl | exact BindsTo.of_eq rfl); (case kB => exact locs rfl); (case cK => first | assumption | exact rfl); (case c2 => exact rfl); (case c3 => exact rfl); (case c4 => exact rfl); (case c5 => decide); k_whole; intro g' L' h' FG' F' N' B' X' T' D'; (try dsimp only); (try k_lift B'); (try k_fold))
  k_steps
  all_goals (refine' hret _ _ _ ?eP ?eF ?eN; (case eF => with_reducible assumption); (case eN => with_reducible assumption); (case eP => first | exact .inl ⟨by with_reducible assumption, rfl⟩ | exact .inr ⟨by with_reducible assumption, _, rfl⟩))
end
section
theorem walk_MTojd : True := by
  w_top off
  trivial
-- a float's bound, an int's bound, a bound's number
local macro_rules | `(tactic| kwd_rel) => `(tactic| first | assumption | exact lit_bd (k := 22) (by decide +kernel))
local macro_rules | `(tactic| kwd_inv) => `(tactic| first | exact And.intro (by assumption) (by assumption) | ((show -(2 ^ 8 : Int) ≤ _ ∧ _ ≤ (2 ^ 8 : Int)); constructor <;> omega) | ((show -(2 ^ 20 : Int) ≤ _ ∧ _ ≤ (2 ^ 20 : Int)); constructor <;> omega) | ((show -(2 ^ 40 : Int) ≤ _ ∧ _ ≤ (2 ^ 40 : Int)); constructor <;> omega) | ((show -(2 ^ 60 : Int) ≤ _ ∧ _ ≤ (2 ^ 60 : Int)); constructor <;> omega) | ((show -(2 ^ 80 : Int) ≤ _ ∧ _ ≤ (2 ^ 80 : Int)); constructor <;> omega) | ((show -(2 ^ 115 : Int) ≤ _ ∧ _ ≤ (2 ^ 115 : Int)); constructor <;> omega) | ((show -(2 ^ 150 : Int) ≤ _ ∧ _ ≤ (2 ^ 150 : Int)); constructor <;> omega) | ((show -(2 ^ 215 : Int) ≤ _ ∧ _ ≤ (2 ^ 215 : Int)); constructor <;> omega))
local macro_rules | `(tactic| walk_at "binaryOp Add float float") => `(tactic| (k_dflt (refine' w_add_ff ?fa ?fb ?fk ?_; (case fa => kwd_rel); (case fb => kwd_rel); (case fk => decide); intro zf hf; (try simp only [Nat.max_def, Nat.reduceLeDiff, reduceIte, Nat.reduceAdd] at hf))))
local macro_rules | `(tactic| walk_at "inplaceOp Add float float") => `(tactic| (k_dflt (refine' w_iadd_ff ?fa ?fb ?fk ?_; (case fa => kwd_rel); (case fb => kwd_rel); (case fk => decide); intro zf hf; (try simp only [Nat.max_def, Nat.reduceLeDiff, reduceIte, Nat.reduceAdd] at hf))))
local macro_rules | `(tactic| walk_at "binaryOp Sub float float") => `(tactic| (k_dflt (refine' w_sub_ff ?fa ?fb ?fk ?_; (case fa => kwd_rel); (case fb => kwd_rel); (case fk => decide); intro zf hf; (try simp only [Nat.max_def, Nat.reduceLeDiff, reduceIte, Nat.reduceAdd] at hf))))
local macro_rules | `(tactic| walk_at "binaryOp Div float float") => `(tactic| (k_dflt (refine' w_div_ff ?fA ?fa ?fb ?fk ?_; (case fA => rfl); (case fa => kwd_rel); (case fb => exact lit_ge1 (by decide +kernel)); (case fk => decide); intro zf hf)))
local macro_rules | `(tactic| walk_at "binaryOp Add float int") => `(tactic| (k_dflt (refine' w_add_fi ?fA ?fa ?fb ?fk ?_; (case fA => rfl); (case fa => kwd_rel); (case fb => kwd_inv); (case fk => decide); intro zf hf; (try simp only [Nat.max_def, Nat.reduceLeDiff, reduceIte, Nat.reduceAdd] at hf))))
local macro_rules | `(tactic| walk_at "binaryOp Add int float") => `(tactic| (k_dflt (refine' w_add_if ?fA ?fa ?fb ?fk ?_; (case fA => rfl); (case fa => kwd_rel); (case fb => kwd_inv); (case fk => decide); intro zf hf; (try simp only [Nat.max_def, Nat.reduceLeDiff, reduceIte, Nat.reduceAdd] at hf))))
local macro_rules | `(tactic| walk_at "binaryOp Sub float int") => `(tactic| (k_dflt (refine' w_sub_fi ?fA ?fa ?fb ?fk ?_; (case fA => rfl); (case fa => kwd_rel); (case fb => kwd_inv); (case fk => decide); intro zf hf; (try simp only [Nat.max_def, Nat.reduceLeDiff, reduceIte, Nat.reduceAdd] at hf))))
local macro_rules | `(tactic| walk_at "binaryOp Sub int float") => `(tactic| (k_dflt (refine' w_sub_if ?fA ?fa ?fb ?fk ?_; (case fA => rfl); (case fa => kwd_rel); (case fb => kwd_inv); (case fk => decide); intro zf hf; (try simp only [Nat.max_def, Nat.reduceLeDiff, reduceIte, Nat.reduceAdd] at hf))))
local macro_rules | `(tactic| walk_at "binaryOp Mult float int") => `(tactic| (k_dflt (refine' w_mul_fi ?fA ?fa ?fb ?fk ?_; (case fA => rfl); (case fa => kwd_rel); (case fb => kwd_inv); (case fk => decide); intro zf hf; (try simp only [Nat.reduceAdd] at hf))))
local macro_rules | `(tactic| walk_at "binaryOp Div float int") => `(tactic| (k_dflt (refine' w_div_fi ?fA ?fa ?fb ?f0 ?fj ?fk ?_; (case fA => rfl); (case fa => kwd_rel); (case fb => kwd_inv); (case f0 => decide); (case fj => decide); (case fk => decide); intro zf hf)))
local macro_rules | `(tactic| walk_at "binaryOp Mod float int") => `(tactic| (k_dflt (refine' w_mod_fi ?fA ?fa ?fb ?f0 ?fj ?_; (case fA => rfl); (case fa => kwd_rel); (case fb => kwd_inv); (case f0 => decide); (case fj => decide); intro zf hf; (try simp only [Nat.reduceAdd] at hf))))
local macro_rules | `(tactic| walk_at "binaryOp Div int int") => `(tactic| (k_dflt (refine' w_div_ii ?fA ?fb ?f0 ?fk ?_; (case fA => rfl); (case fb => kwd_inv); (case f0 => decide); (case fk => decide); intro zf hf)))
local macro_rules | `(tactic| walk_at "call builtin:math.floor") => `(tactic| (k_dflt (refine' w_floor ?fA ?fa ?_; (case fA => rfl); (case fa => kwd_rel); intro zf hf1 hf2)))
local macro_rules | `(tactic| walk_at "call builtin:math.trunc") => `(tactic| (k_dflt (refine' w_trunc ?fA ?fa ?_; (case fA => rfl); (case fa => kwd_rel); intro zf hf1 hf2)))
local macro_rules | `(tactic| walk_at "call type:int") => `(tactic| (k_dflt (refine' w_int ?fA ?fa ?_; (case fA => rfl); (case fa => kwd_rel); intro zf hf1 hf2)))

-- a def entered where the frames' number is a letter
local macro_rules | `(tactic| walk_at "call ref") => `(tactic| (k_here; k_dflt (refine wpAny_call ?_; (refine' code_def ?k1 ?k2 ?k3 ?k4 ?k5 ?kA ?kF ?kK ?k6 ?k7 ?k8 ?k9 ?kB ?_ ?c2 ?c3 ?c4 ?c5; (case kA => exact rfl); (case kF => exact rfl); (case kK => first | exact rfl | assumption); (case k1 => k_asm); (case k2 => k_asm); (case k3 => k_asm); (case k4 => k_asm); (case k5 => k_asm); (case k6 => k_is); (case k7 => k_is); (case k8 => ktr_room); (case k9 => exact BindsTo.of_eq rfl); (case c5 => decide); (case kB => exact locs rfl); (case c2 => exact rfl); (case c3 => exact rfl); (case c4 => exact rfl); k_whole; intro g' L' h' FG' F' N' B' X' T'; (try dsimp only); (try k_lift B'); (try k_fold)))))

local macro_rules | `(tactic| walk_at "compareOp In int ref") => `(tactic| (k_here; k_dflt (refine' in30 ?k1 ?k2 ?_; (case k1 => k_asm); (case k2 => k_asm)); intro b9))
local macro_rules | `(tactic| walk_at "binaryOp Div int float") => `(tactic| (k_dflt (refine' w_div_if ?fA ?fb ?fc ?fk ?_; (case fA => rfl); (case fb => kwd_inv); (case fc => exact lit_ge1 (by decide +kernel)); (case fk => decide); intro zf hf)))
local macro_rules | `(tactic| walk_at "eval Call") => `(tactic| ((with_reducible show wpAny _ _ (eval (Expr.Call (Expr.Name _ _) _ [] _) _) _ _ _); refine Call_ ?_))
local macro_rules | `(tactic| walk_at "noteFrame ref") => `(tactic| (k_here; (with_reducible rename Heap.NewExc _ _ _ _ => nxX); k_dflt (refine' caught_from ?cK ?cF ?cN nxX ?cX ?cT ?c1 ?c2 ?_; (case cK => assumption); (case cF => assumption); (case cN => assumption); (case cX => assumption); (case cT => assumption); (case c1 => k_is); (case c2 => k_is)); clear nxX; intro h' tk' G' m' e' R' F' U'; (try dsimp only)))
local macro_rules | `(tactic| walk_at "compareOp Eq") => `(tactic| (k_here; k_dflt (refine' eq_word ?hw ?_; (case hw => assumption)); intro b9))
local macro_rules | `(tactic| walk_at "call ref") => `(tactic| (k_here; k_dflt (refine' use3 (c_valid _ _ _ _ _ _ _ _ _ _ _ _ _ ?kw) ?kX ?kT ?kD ?k1 ?k2 ?k3 ?k4 ?k5 ?k6 ?kd ?ku ?_ ?_; (case k2 => k_asm); (case k1 => k_asm); (case k3 => k_asm); (case k4 => k_asm); (case k5 => k_asm); (case kX => assumption); (case kT => assumption); (case kD => assumption); (case k6 => first | exact rfl | assumption); (case kd => ktr_room); (case ku => ktr_units); (case kw => assumption)); rotate_left; (intro e9 g9 h9 tk9 hX9 F9 R9 U9; (try dsimp only)); rotate_right; (intro v9 h9 tk9 hP9 F9 N9; obtain ⟨hD9, e9⟩ := hP9; subst e9; (have hB9 := due_bounds hD9); obtain ⟨hB1, hB2, hB3, hB4, hB5⟩ := hB9; (try dsimp only))))
theorem c_tojd (w : World) (loose : List Str) (mean : ExcName → Option Value) (mg mb : Str → Option Value) (y m d : Int) (t1 t2 t3 : Tok) (v : Value) (f : Bool) (hw : IsWord v f) (hy : y ≤ 100000000) :
    Claim3 w loose mean mg mb 4 113 [.int y t1, .int m t2, .int d t3, v] (fun r => Due f y m d ∧ ∃ z t, r = .float z t ∧ Bd z 44) (¬ Due f y m d) := by
  unfold Claim3
  k_fill
  dsimp only [Ret]
  intros
  rename_i hret hexc
  refine wpAny_call ?_
  k_dflt (refine' code_defS ?k1 ?k2 ?k3 ?k4 ?k5 ?XB ?TB ?D ?T0 ?kA ?k6 ?k7 ?k8 ?k9 ?kB ?_ ?cK ?c2 ?c3 ?c4 ?c5; (case kA => exact rfl); (case k2 => k_asm); (case k1 => k_asm); (case XB => assumption); (case TB => assumption); (case D => assumption); (case T0 => exact KtsTurn.refl); (case k3 => k_asm); (case k4 => k_asm); (case k5 => k_asm); (case k6 => k_is); (case k7 => k_is); (case k8 => ktr_room); (case k9 => first | exact binds_K (by k_in) rfl (by k_is) rfl rfl rfl | exact BindsTo.of_eq rfl); (case kB => exact locs rfl); (case cK => first | assumption | exact rfl); (case c2 => exact rfl); (case c3 => exact rfl); (case c4 => exact rfl); (case c5 => decide); k_whole; intro g' L' h' FG' F' N' B' X' T' D'; (try dsimp only); (try k_lift B'); (try k_fold))
  k_steps
  all_goals (first
    | (refine' hexc _ _ _ _ ?eX ?eF ?eR ?eU; (case eR => with_reducible assumption); (case eU => with_reducible assumption); (case eF => with_reducible assumption); (case eX => with_reducible assumption))
    | (refine' hret _ _ _ ?eP ?eF ?eN; (case eF => with_reducible assumption); (case eN => with_reducible assumption); (case eP => exact ⟨by with_reducible assumption, _, _, rfl, Bd.mono (by with_reducible assumption) (by decide)⟩)))
end
section
theorem walk_MTojul : True := by
  w_top off
  trivial
local macro_rules | `(tactic| walk_at "spare line") => `(tactic| skip)
local macro_rules | `(tactic| walk_at "spare line") => `(tactic| skip)
local macro_rules | `(tactic| walk_at "spare line") => `(tactic| skip)
local macro_rules | `(tactic| walk_at "eval Call") => `(tactic| ((with_reducible show wpAny _ _ (eval (Expr.Call (Expr.Name _ _) _ [] _) _) _ _ _); refine Call_ ?_))
local macro_rules | `(tactic| walk_at "noteFrame ref") => `(tactic| (k_here; (with_reducible rename Heap.NewExc _ _ _ _ => nxX); k_dflt (refine' caught_from ?cK ?cF ?cN nxX ?cX ?cT ?c1 ?c2 ?_; (case cK => assumption); (case cF => assumption); (case cN => assumption); (case cX => assumption); (case cT => assumption); (case c1 => k_is); (case c2 => k_is)); clear nxX; intro h' tk' G' m' e' R' F' U'; (try dsimp only)))
local macro_rules | `(tactic| walk_at "call ref") => `(tactic| (k_here; k_dflt (refine' use3 (c_tojd _ _ _ _ _ _ _ _ _ _ _ _ _ ?kw ?ky) ?kX ?kT ?kD ?k1 ?k2 ?k3 ?k4 ?k5 ?k6 ?kd ?ku ?_ ?_; (case k2 => k_asm); (case k1 => k_asm); (case k3 => k_asm); (case k4 => k_asm); (case k5 => k_asm); (case kX => assumption); (case kT => assumption); (case kD => assumption); (case k6 => first | exact rfl | assumption); (case kd => ktr_room); (case ku => ktr_units); (case kw => assumption); (case ky => first | assumption | omega)); rotate_left; (intro e9 g9 h9 tk9 hX9 F9 R9 U9; (try dsimp only)); rotate_right; (intro v9 h9 tk9 hP9 F9 N9; obtain ⟨hD9, z9, t9, e9, hz9⟩ := hP9; subst e9; (have hB9 := due_bounds hD9); obtain ⟨hB1, hB2, hB3, hB4, hB5⟩ := hB9; (try dsimp only))))
local macro_rules | `(tactic| walk_at "call ref") => `(tactic| (k_here; k_dflt (refine' use (c_fjj _ _ _ _ _ _ _ ?kx) ?k1 ?k2 ?k3 ?k4 ?k5 ?k6 ?kd ?ku ?_; (case k2 => k_asm); (case k1 => k_asm); (case k3 => k_asm); (case k4 => k_asm); (case k5 => k_asm); (case k6 => first | exact rfl | assumption); (case kd => ktr_room); (case ku => ktr_units); (case kx => assumption)); (intro v9 h9 tk9 hP9 F9 N9; obtain ⟨a9, e9⟩ := hP9; subst e9); (try dsimp only); (try k_fold)))
local macro_rules | `(tactic| walk_at "call ref") => `(tactic| (k_here; k_dflt (refine' use (c_fjg _ _ _ _ _ _ _ ?kx) ?k1 ?k2 ?k3 ?k4 ?k5 ?k6 ?kd ?ku ?_; (case k2 => k_asm); (case k1 => k_asm); (case k3 => k_asm); (case k4 => k_asm); (case k5 => k_asm); (case k6 => first | exact rfl | assumption); (case kd => ktr_room); (case ku => ktr_units); (case kx => assumption)); (intro v9 h9 tk9 hP9 F9 N9; obtain ⟨a9, e9⟩ := hP9; subst e9); (try dsimp only); (try k_fold)))
theorem c_tojul (w : World) (loose : List Str) (mean : ExcName → Option Value) (mg mb : Str → Option Value) (y m d : Int) (t1 t2 t3 : Tok) (v : Value) (f : Bool) (hw : IsWord v f) (hy : y ≤ 100000000) :
    Claim3 w loose mean mg mb 6 121 [.int y t1, .int m t2, .int d t3, v] (fun r => Due f y m d ∧ ∃ a, r = .ref a) (¬ Due f y m d) := by
  unfold Claim3
  k_fill
  dsimp only [Ret]
  intros
  rename_i hret hexc
  refine wpAny_call ?_
  k_dflt (refine' code_defS ?k1 ?k2 ?k3 ?k4 ?k5 ?XB ?TB ?D ?T0 ?kA ?k6 ?k7 ?k8 ?k9 ?kB ?_ ?cK ?c2 ?c3 ?c4 ?c5; (case kA => exact rfl); (case k2 => k_asm); (case k1 => k_asm); (case XB => assumption); (case TB => assumption); (case D => assumption); (case T0 => exact KtsTurn.refl); (case k3 => k_asm); (case k4 => k_asm); (case k5 => k_asm); (case k6 => k_is); (case k7 => k_is); (case k8 => ktr_room); (case k9 => first | exact binds_K (by k_in) rfl (by k_is) rfl rfl rfl | exact BindsTo.of_eq rfl); (case kB => exact locs rfl); (case cK => first | assumption | exact rfl); (case c2 => exact rfl); (case c3 => exact rfl); (case c4 => exact rfl); (case c5 => decide); k_whole; intro g' L' h' FG' F' N' B' X' T' D'; (try dsimp only); (try k_lift B'); (try k_fold))
  k_steps
  all_goals (first
    | (refine' hexc _ _ _ _ ?eX ?eF ?eR ?eU; (case eR => with_reducible assumption); (case eU => with_reducible assumption); (case eF => with_reducible assumption); (case eX => with_reducible assumption))
    | (refine' hret _ _ _ ?eP ?eF ?eN; (case eF => with_reducible assumption); (case eN => with_reducible assumption); (case eP => exact ⟨by with_reducible assumption, _, rfl⟩)))
end
section
theorem walk_MTogreg : True := by
  w_top off
  trivial
local macro_rules | `(tactic| walk_at "spare line") => `(tactic| skip)
local macro_rules | `(tactic| walk_at "spare line") => `(tactic| skip)
local macro_rules | `(tactic| walk_at "spare line") => `(tactic| skip)
local macro_rules | `(tactic| walk_at "spare line") => `(tactic| skip)
local macro_rules | `(tactic| walk_at "eval Call") => `(tactic| ((with_reducible show wpAny _ _ (eval (Expr.Call (Expr.Name _ _) _ [] _) _) _ _ _); refine Call_ ?_))
local macro_rules | `(tactic| walk_at "noteFrame ref") => `(tactic| (k_here; (with_reducible rename Heap.NewExc _ _ _ _ => nxX); k_dflt (refine' caught_from ?cK ?cF ?cN nxX ?cX ?cT ?c1 ?c2 ?_; (case cK => assumption); (case cF => assumption); (case cN => assumption); (case cX => assumption); (case cT => assumption); (case c1 => k_is); (case c2 => k_is)); clear nxX; intro h' tk' G' m' e' R' F' U'; (try dsimp only)))
local macro_rules | `(tactic| walk_at "call ref") => `(tactic| (k_here; k_dflt (refine' use3 (c_tojd _ _ _ _ _ _ _ _ _ _ _ _ _ ?kw ?ky) ?kX ?kT ?kD ?k1 ?k2 ?k3 ?k4 ?k5 ?k6 ?kd ?ku ?_ ?_; (case k2 => k_asm); (case k1 => k_asm); (case k3 => k_asm); (case k4 => k_asm); (case k5 => k_asm); (case kX => assumption); (case kT => assumption); (case kD => assumption); (case k6 => first | exact rfl | assumption); (case kd => ktr_room); (case ku => ktr_units); (case kw => assumption); (case ky => first | assumption | omega)); rotate_left; (intro e9 g9 h9 tk9 hX9 F9 R9 U9; (try dsimp only)); rotate_right; (intro v9 h9 tk9 hP9 F9 N9; obtain ⟨hD9, z9, t9, e9, hz9⟩ := hP9; subst e9; (have hB9 := due_bounds hD9); obtain ⟨hB1, hB2, hB3, hB4, hB5⟩ := hB9; (try dsimp only))))
local macro_rules | `(tactic| walk_at "call ref") => `(tactic| (k_here; k_dflt (refine' use (c_fjj _ _ _ _ _ _ _ ?kx) ?k1 ?k2 ?k3 ?k4 ?k5 ?k6 ?kd ?ku ?_; (case k2 => k_asm); (case k1 => k_asm); (case k3 => k_asm); (case k4 => k_asm); (case k5 => k_asm); (case k6 => first | exact rfl | assumption); (case kd => ktr_room); (case ku => ktr_units); (case kx => assumption)); (intro v9 h9 tk9 hP9 F9 N9; obtain ⟨a9, e9⟩ := hP9; subst e9); (try dsimp only); (try k_fold)))
local macro_rules | `(tactic| walk_at "call ref") => `(tactic| (k_here; k_dflt (refine' use (c_fjg _ _ _ _ _ _ _ ?kx) ?k1 ?k2 ?k3 ?k4 ?k5 ?k6 ?kd ?ku ?_; (case k2 => k_asm); (case k1 => k_asm); (case k3 => k_asm); (case k4 => k_asm); (case k5 => k_asm); (case k6 => first | exact rfl | assumption); (case kd => ktr_room); (case ku => ktr_units); (case kx => assumption)); (intro v9 h9 tk9 hP9 F9 N9; obtain ⟨a9, e9⟩ := hP9; subst e9); (try dsimp only); (try k_fold)))
theorem c_togreg (w : World) (loose : List Str) (mean : ExcName → Option Value) (mg mb : Str → Option Value) (y m d : Int) (t1 t2 t3 : Tok) (v : Value) (f : Bool) (hw : IsWord v f) (hy : y ≤ 100000000) :
    Claim3 w loose mean mg mb 6 129 [.int y t1, .int m t2, .int d t3, v] (fun r => Due f y m d ∧ ∃ a, r = .ref a) (¬ Due f y m d) := by
  unfold Claim3
  k_fill
  dsimp only [Ret]
  intros
  rename_i hret hexc
  refine wpAny_call ?_
  k_dflt (refine' code_defS ?k1 ?k2 ?k3 ?k4 ?k5 ?XB ?TB ?D ?T0 ?kA ?k6 ?k7 ?k8 ?k9 ?kB ?_ ?cK ?c2 ?c3 ?c4 ?c5; (case kA => exact rfl); (case k2 => k_asm); (case k1 => k_asm); (case XB => assumption); (case TB => assumption); (case D => assumption); (case T0 => exact KtsTurn.refl); (case k3 => k_asm); (case k4 => k_asm); (case k5 => k_asm); (case k6 => k_is); (case k7 => k_is); (case k8 => ktr_room); (case k9 => first | exact binds_K (by k_in) rfl (by k_is) rfl rfl rfl | exact BindsTo.of_eq rfl); (case kB => exact locs rfl); (case cK => first | assumption | exact rfl); (case c2 => exact rfl); (case c3 => exact rfl); (case c4 => exact rfl); (case c5 => decide); k_whole; intro g' L' h' FG' F' N' B' X' T' D'; (try dsimp only); (try k_lift B'); (try k_fold))
  k_steps
  all_goals (first
    | (refine' hexc _ _ _ _ ?eX ?eF ?eR ?eU; (case eR => with_reducible assumption); (case eU => with_reducible assumption); (case eF => with_reducible assumption); (case eX => with_reducible assumption))
    | (refine' hret _ _ _ ?eP ?eF ?eN; (case eF => with_reducible assumption); (case eN => with_reducible assumption); (case eP => exact ⟨by with_reducible assumption, _, rfl⟩)))
end
section
theorem walk_MDoor : True := by
  w_top off
  trivial
local macro_rules | `(tactic| walk_at "spare line") => `(tactic| skip)
local macro_rules | `(tactic| walk_at "spare line") => `(tactic| skip)
local macro_rules | `(tactic| walk_at "spare line") => `(tactic| skip)
local macro_rules | `(tactic| walk_at "spare line") => `(tactic| skip)
local macro_rules | `(tactic| walk_at "spare line") => `(tactic| skip)
local macro_rules | `(tactic| walk_at "eval Call") => `(tactic| ((with_reducible show wpAny _ _ (eval (Expr.Call (Expr.Name _ _) _ [] _) _) _ _ _); refine Call_ ?_))
local macro_rules | `(tactic| walk_at "noteFrame ref") => `(tactic| (k_here; (with_reducible rename Heap.NewExc _ _ _ _ => nxX); k_dflt (refine' caught_from ?cK ?cF ?cN nxX ?cX ?cT ?c1 ?c2 ?_; (case cK => assumption); (case cF => assumption); (case cN => assumption); (case cX => assumption); (case cT => assumption); (case c1 => k_is); (case c2 => k_is)); clear nxX; intro h' tk' G' m' e' R' F' U'; (try dsimp only)))
local macro_rules | `(tactic| walk_at "call ref") => `(tactic| (k_here; k_dflt (refine' use3 (c_tojd _ _ _ _ _ _ _ _ _ _ _ _ _ ?kw ?ky) ?kX ?kT ?kD ?k1 ?k2 ?k3 ?k4 ?k5 ?k6 ?kd ?ku ?_ ?_; (case k2 => k_asm); (case k1 => k_asm); (case k3 => k_asm); (case k4 => k_asm); (case k5 => k_asm); (case kX => assumption); (case kT => assumption); (case kD => assumption); (case k6 => first | exact rfl | assumption); (case kd => ktr_room); (case ku => ktr_units); (case kw => assumption); (case ky => first | assumption | omega)); rotate_left; (intro e9 g9 h9 tk9 hX9 F9 R9 U9; (try dsimp only)); rotate_right; (intro v9 h9 tk9 hP9 F9 N9; obtain ⟨hD9, z9, t9, e9, hz9⟩ := hP9; subst e9; (have hB9 := due_bounds hD9); obtain ⟨hB1, hB2, hB3, hB4, hB5⟩ := hB9; (try dsimp only))))
local macro_rules | `(tactic| walk_at "call ref") => `(tactic| (k_here; k_dflt (refine' use3 (c_tojul _ _ _ _ _ _ _ _ _ _ _ _ _ ?kw ?ky) ?kX ?kT ?kD ?k1 ?k2 ?k3 ?k4 ?k5 ?k6 ?kd ?ku ?_ ?_; (case k2 => k_asm); (case k1 => k_asm); (case k3 => k_asm); (case k4 => k_asm); (case k5 => k_asm); (case kX => assumption); (case kT => assumption); (case kD => assumption); (case k6 => first | exact rfl | assumption); (case kd => ktr_room); (case ku => ktr_units); (case kw => assumption); (case ky => first | assumption | omega)); rotate_left; (intro e9 g9 h9 tk9 hX9 F9 R9 U9; (try dsimp only)); rotate_right; (intro v9 h9 tk9 hP9 F9 N9; obtain ⟨hD9, a9, e9⟩ := hP9; subst e9; (try dsimp only))))
local macro_rules | `(tactic| walk_at "call ref") => `(tactic| (k_here; k_dflt (refine' use3 (c_togreg _ _ _ _ _ _ _ _ _ _ _ _ _ ?kw ?ky) ?kX ?kT ?kD ?k1 ?k2 ?k3 ?k4 ?k5 ?k6 ?kd ?ku ?_ ?_; (case k2 => k_asm); (case k1 => k_asm); (case k3 => k_asm); (case k4 => k_asm); (case k5 => k_asm); (case kX => assumption); (case kT => assumption); (case kD => assumption); (case k6 => first | exact rfl | assumption); (case kd => ktr_room); (case ku => ktr_units); (case kw => assumption); (case ky => first | assumption | omega)); rotate_left; (intro e9 g9 h9 tk9 hX9 F9 R9 U9; (try dsimp only)); rotate_right; (intro v9 h9 tk9 hP9 F9 N9; obtain ⟨hD9, a9, e9⟩ := hP9; subst e9; (try dsimp only))))
theorem c_door (w : World) (loose : List Str) (mean : ExcName → Option Value) (mg mb : Str → Option Value) (k y m d : Int) (t0 t1 t2 t3 : Tok) (v : Value) (f : Bool) (hw : IsWord v f) (hy : y ≤ 100000000) :
    Claim2 w loose mean mg mb 173 [.int k t0, .int y t1, .int m t2, .int d t3, v] (fun r => (Due f y m d ∧ r = .bool true) ∨ (¬ Due f y m d ∧ r = .bool false)) := by
  unfold Claim2
  k_fill
  dsimp only [Ret]
  intros
  rename_i hret
  refine wpAny_call ?_
  k_dflt (refine' code_defS0 ?k1 ?k2 ?k3 ?k4 ?k5 ?kA ?k6 ?k7 ?k8 ?k9 ?kB ?_ ?cK ?c2 ?c3 ?c4 ?c5; (case kA => exact rfl); (case k2 => k_asm); (case k1 => k_asm); (case k3 => k_asm); (case k4 => k_asm); (case k5 => k_asm); (case k6 => k_is); (case k7 => k_is); (case k8 => k_room); (case k9 => first | exact binds_K (by k_in) rfl (by k_is) rfl rfl rfl | exact BindsTo.of_eq rfl); (case kB => exact locs rfl); (case cK => first | assumption | exact rfl); (case c2 => exact rfl); (case c3 => exact rfl); (case c4 => exact rfl); (case c5 => decide); k_whole; intro g' L' h' FG' F' N' B' X' T' D'; (try dsimp only); (try k_lift B'); (try k_fold))
  k_steps
  all_goals (refine' hret _ _ _ ?eP ?eF ?eN; (case eF => with_reducible assumption); (case eN => with_reducible assumption); (case eP => first | exact .inl ⟨by with_reducible assumption, rfl⟩ | exact .inr ⟨by with_reducible assumption, rfl⟩))
end
section
theorem walk_MLlen : True := by
  w_top off
  trivial
-- a float's bound, an int's bound, a bound's number
local macro_rules | `(tactic| kwd_rel) => `(tactic| first | assumption | exact lit_bd (k := 22) (by decide +kernel))
local macro_rules | `(tactic| kwd_inv) => `(tactic| first | exact And.intro (by assumption) (by assumption) | ((show -(2 ^ 8 : Int) ≤ _ ∧ _ ≤ (2 ^ 8 : Int)); constructor <;> omega) | ((show -(2 ^ 20 : Int) ≤ _ ∧ _ ≤ (2 ^ 20 : Int)); constructor <;> omega) | ((show -(2 ^ 40 : Int) ≤ _ ∧ _ ≤ (2 ^ 40 : Int)); constructor <;> omega) | ((show -(2 ^ 60 : Int) ≤ _ ∧ _ ≤ (2 ^ 60 : Int)); constructor <;> omega) | ((show -(2 ^ 80 : Int) ≤ _ ∧ _ ≤ (2 ^ 80 : Int)); constructor <;> omega) | ((show -(2 ^ 115 : Int) ≤ _ ∧ _ ≤ (2 ^ 115 : Int)); constructor <;> omega) | ((show -(2 ^ 150 : Int) ≤ _ ∧ _ ≤ (2 ^ 150 : Int)); constructor <;> omega) | ((show -(2 ^ 215 : Int) ≤ _ ∧ _ ≤ (2 ^ 215 : Int)); constructor <;> omega))
local macro_rules | `(tactic| walk_at "binaryOp Add float float") => `(tactic| (k_dflt (refine' w_add_ff ?fa ?fb ?fk ?_; (case fa => kwd_rel); (case fb => kwd_rel); (case fk => decide); intro zf hf; (try simp only [Nat.max_def, Nat.reduceLeDiff, reduceIte, Nat.reduceAdd] at hf))))
local macro_rules | `(tactic| walk_at "inplaceOp Add float float") => `(tactic| (k_dflt (refine' w_iadd_ff ?fa ?fb ?fk ?_; (case fa => kwd_rel); (case fb => kwd_rel); (case fk => decide); intro zf hf; (try simp only [Nat.max_def, Nat.reduceLeDiff, reduceIte, Nat.reduceAdd] at hf))))
local macro_rules | `(tactic| walk_at "binaryOp Sub float float") => `(tactic| (k_dflt (refine' w_sub_ff ?fa ?fb ?fk ?_; (case fa => kwd_rel); (case fb => kwd_rel); (case fk => decide); intro zf hf; (try simp only [Nat.max_def, Nat.reduceLeDiff, reduceIte, Nat.reduceAdd] at hf))))
local macro_rules | `(tactic| walk_at "binaryOp Div float float") => `(tactic| (k_dflt (refine' w_div_ff ?fA ?fa ?fb ?fk ?_; (case fA => rfl); (case fa => kwd_rel); (case fb => exact lit_ge1 (by decide +kernel)); (case fk => decide); intro zf hf)))
local macro_rules | `(tactic| walk_at "binaryOp Add float int") => `(tactic| (k_dflt (refine' w_add_fi ?fA ?fa ?fb ?fk ?_; (case fA => rfl); (case fa => kwd_rel); (case fb => kwd_inv); (case fk => decide); intro zf hf; (try simp only [Nat.max_def, Nat.reduceLeDiff, reduceIte, Nat.reduceAdd] at hf))))
local macro_rules | `(tactic| walk_at "binaryOp Add int float") => `(tactic| (k_dflt (refine' w_add_if ?fA ?fa ?fb ?fk ?_; (case fA => rfl); (case fa => kwd_rel); (case fb => kwd_inv); (case fk => decide); intro zf hf; (try simp only [Nat.max_def, Nat.reduceLeDiff, reduceIte, Nat.reduceAdd] at hf))))
local macro_rules | `(tactic| walk_at "binaryOp Sub float int") => `(tactic| (k_dflt (refine' w_sub_fi ?fA ?fa ?fb ?fk ?_; (case fA => rfl); (case fa => kwd_rel); (case fb => kwd_inv); (case fk => decide); intro zf hf; (try simp only [Nat.max_def, Nat.reduceLeDiff, reduceIte, Nat.reduceAdd] at hf))))
local macro_rules | `(tactic| walk_at "binaryOp Sub int float") => `(tactic| (k_dflt (refine' w_sub_if ?fA ?fa ?fb ?fk ?_; (case fA => rfl); (case fa => kwd_rel); (case fb => kwd_inv); (case fk => decide); intro zf hf; (try simp only [Nat.max_def, Nat.reduceLeDiff, reduceIte, Nat.reduceAdd] at hf))))
local macro_rules | `(tactic| walk_at "binaryOp Mult float int") => `(tactic| (k_dflt (refine' w_mul_fi ?fA ?fa ?fb ?fk ?_; (case fA => rfl); (case fa => kwd_rel); (case fb => kwd_inv); (case fk => decide); intro zf hf; (try simp only [Nat.reduceAdd] at hf))))
local macro_rules | `(tactic| walk_at "binaryOp Div float int") => `(tactic| (k_dflt (refine' w_div_fi ?fA ?fa ?fb ?f0 ?fj ?fk ?_; (case fA => rfl); (case fa => kwd_rel); (case fb => kwd_inv); (case f0 => decide); (case fj => decide); (case fk => decide); intro zf hf)))
local macro_rules | `(tactic| walk_at "binaryOp Mod float int") => `(tactic| (k_dflt (refine' w_mod_fi ?fA ?fa ?fb ?f0 ?fj ?_; (case fA => rfl); (case fa => kwd_rel); (case fb => kwd_inv); (case f0 => decide); (case fj => decide); intro zf hf; (try simp only [Nat.reduceAdd] at hf))))
local macro_rules | `(tactic| walk_at "binaryOp Div int int") => `(tactic| (k_dflt (refine' w_div_ii ?fA ?fb ?f0 ?fk ?_; (case fA => rfl); (case fb => kwd_inv); (case f0 => decide); (case fk => decide); intro zf hf)))
local macro_rules | `(tactic| walk_at "call builtin:math.floor") => `(tactic| (k_dflt (refine' w_floor ?fA ?fa ?_; (case fA => rfl); (case fa => kwd_rel); intro zf hf1 hf2)))
local macro_rules | `(tactic| walk_at "call builtin:math.trunc") => `(tactic| (k_dflt (refine' w_trunc ?fA ?fa ?_; (case fA => rfl); (case fa => kwd_rel); intro zf hf1 hf2)))
local macro_rules | `(tactic| walk_at "call type:int") => `(tactic| (k_dflt (refine' w_int ?fA ?fa ?_; (case fA => rfl); (case fa => kwd_rel); intro zf hf1 hf2)))

-- a def entered where the frames' number is a letter
local macro_rules | `(tactic| walk_at "call ref") => `(tactic| (k_here; k_dflt (refine wpAny_call ?_; (refine' code_def ?k1 ?k2 ?k3 ?k4 ?k5 ?kA ?kF ?kK ?k6 ?k7 ?k8 ?k9 ?kB ?_ ?c2 ?c3 ?c4 ?c5; (case kA => exact rfl); (case kF => exact rfl); (case kK => first | exact rfl | assumption); (case k1 => k_asm); (case k2 => k_asm); (case k3 => k_asm); (case k4 => k_asm); (case k5 => k_asm); (case k6 => k_is); (case k7 => k_is); (case k8 => ktr_room); (case k9 => exact BindsTo.of_eq rfl); (case c5 => decide); (case kB => exact locs rfl); (case c2 => exact rfl); (case c3 => exact rfl); (case c4 => exact rfl); k_whole; intro g' L' h' FG' F' N' B' X' T'; (try dsimp only); (try k_lift B'); (try k_fold)))))

local macro_rules | `(tactic| walk_at "compareOp In int ref") => `(tactic| (k_here; k_dflt (refine' in30 ?k1 ?k2 ?_; (case k1 => k_asm); (case k2 => k_asm)); intro b9))
local macro_rules | `(tactic| walk_at "binaryOp Div int float") => `(tactic| (k_dflt (refine' w_div_if ?fA ?fb ?fc ?fk ?_; (case fA => rfl); (case fb => kwd_inv); (case fc => exact lit_ge1 (by decide +kernel)); (case fk => decide); intro zf hf)))
local macro_rules | `(tactic| walk_at "eval Call") => `(tactic| ((with_reducible show wpAny _ _ (eval (Expr.Call (Expr.Name _ _) _ [] _) _) _ _ _); refine Call_ ?_))
local macro_rules | `(tactic| walk_at "noteFrame ref") => `(tactic| (k_here; (with_reducible rename Heap.NewExc _ _ _ _ => nxX); k_dflt (refine' caught_from ?cK ?cF ?cN nxX ?cX ?cT ?c1 ?c2 ?_; (case cK => assumption); (case cF => assumption); (case cN => assumption); (case cX => assumption); (case cT => assumption); (case c1 => k_is); (case c2 => k_is)); clear nxX; intro h' tk' G' m' e' R' F' U'; (try dsimp only)))
theorem strs_eq {A : Around} {s : Shared} : ∀ {vs : List Value} {ys : List Str}, StrsAre vs ys → ∀ y ∈ vs, PySem.SeqAt.EqAt A s y .none false
  | _, _, .nil, _, h => nomatch h
  | _, _, .cons z t r, y, h => by
    rcases List.mem_cons.mp h with e | h
    · rw [e]; exact PySem.SeqAt.EqAt.str_none z t
    · exact strs_eq r y h
theorem none_in_tup {prog : Program} {w : World} {A : Around} {E : Value → Shared → Prop} {s : Shared} {t : Addr} {items : Array Value} {ys : List Str} {Q : Value → Shared → Prop} (ht : IsTup s.heap t items) (hi : StrsAre items.toList ys)
    (h : Q (.bool false) s) : wpAny (model prog w) A (compareOp .In .none (.ref t)) Q E s :=
  PySem.SeqAt.in_tupleAt (fun _ => false) ht (fun y hy => strs_eq hi y (by simpa using hy)) (by
    have e : items.any (fun _ => false) = false := by
      cases hq : items.any (fun _ => false) with
      | false => rfl
      | true =>
        rw [Array.any_eq_true] at hq
        obtain ⟨_, _, hq⟩ := hq
        cases hq
    rw [e]
    exact h)
theorem c_llen (w : World) (loose : List Str) (mean : ExcName → Option Value) (mg mb : Str → Option Value) (y m : Int) (t1 t2 : Tok) (v : Value) (f : Bool) (hw : IsWord v f) :
    Claim w loose mean mg mb 1 159 [.int y t1, .int m t2, v] (fun r => ∃ t, r = .int (lawLen f y m) t) := by
  unfold Claim
  k_fill
  dsimp only [Ret]
  cases hw
  all_goals (
    intros
    rename_i hret
    refine wpAny_call ?_
    k_dflt cell_enter
    k_steps)
  · (k_here; (with_reducible show wpAny _ _ (compareOp CmpOp.In Value.none (Value.ref _)) _ _ _); (with_unfolding_all refine' none_in_tup ?k1 ?k2 ?_; (case k1 => exact News.isTup (by k_asm) (by news_mem)); (case k2 => kde_strs); k_whole))
    k_steps
    all_goals (refine' hret _ _ _ ?eP ?eF ?eN; (case eF => with_reducible assumption); (case eN => first | with_reducible assumption | (refine' cb_drop ?cbN ?cbS; (case cbN => with_reducible assumption); (case cbS => kcj_all))); (case eP => exact ⟨_, congrArg (Value.int · _) (by simp only [lawLen, Bool.false_eq_true, if_false, if_true, false_and, true_and, and_true, and_false]; (repeat' split) <;> omega)⟩))
  all_goals (refine' hret _ _ _ ?eP ?eF ?eN; (case eF => with_reducible assumption); (case eN => first | with_reducible assumption | (refine' cb_drop ?cbN ?cbS; (case cbN => with_reducible assumption); (case cbS => kcj_all))); (case eP => exact ⟨_, congrArg (Value.int · _) (by simp only [lawLen, Bool.false_eq_true, if_false, if_true, false_and, true_and, and_true, and_false]; (repeat' split) <;> omega)⟩))
end
section
theorem walk_MJwday : True := by
  w_top off
  trivial
-- a float's bound, an int's bound, a bound's number
local macro_rules | `(tactic| kwd_rel) => `(tactic| first | assumption | exact lit_bd (k := 22) (by decide +kernel))
local macro_rules | `(tactic| kwd_inv) => `(tactic| first | exact And.intro (by assumption) (by assumption) | ((show -(2 ^ 8 : Int) ≤ _ ∧ _ ≤ (2 ^ 8 : Int)); constructor <;> omega) | ((show -(2 ^ 20 : Int) ≤ _ ∧ _ ≤ (2 ^ 20 : Int)); constructor <;> omega) | ((show -(2 ^ 40 : Int) ≤ _ ∧ _ ≤ (2 ^ 40 : Int)); constructor <;> omega) | ((show -(2 ^ 60 : Int) ≤ _ ∧ _ ≤ (2 ^ 60 : Int)); constructor <;> omega) | ((show -(2 ^ 80 : Int) ≤ _ ∧ _ ≤ (2 ^ 80 : Int)); constructor <;> omega) | ((show -(2 ^ 115 : Int) ≤ _ ∧ _ ≤ (2 ^ 115 : Int)); constructor <;> omega) | ((show -(2 ^ 150 : Int) ≤ _ ∧ _ ≤ (2 ^ 150 : Int)); constructor <;> omega) | ((show -(2 ^ 215 : Int) ≤ _ ∧ _ ≤ (2 ^ 215 : Int)); constructor <;> omega))
local macro_rules | `(tactic| walk_at "binaryOp Add float float") => `(tactic| (k_dflt (refine' w_add_ff ?fa ?fb ?fk ?_; (case fa => kwd_rel); (case fb => kwd_rel); (case fk => decide); intro zf hf; (try simp only [Nat.max_def, Nat.reduceLeDiff, reduceIte, Nat.reduceAdd] at hf))))
local macro_rules | `(tactic| walk_at "inplaceOp Add float float") => `(tactic| (k_dflt (refine' w_iadd_ff ?fa ?fb ?fk ?_; (case fa => kwd_rel); (case fb => kwd_rel); (case fk => decide); intro zf hf; (try simp only [Nat.max_def, Nat.reduceLeDiff, reduceIte, Nat.reduceAdd] at hf))))
local macro_rules | `(tactic| walk_at "binaryOp Sub float float") => `(tactic| (k_dflt (refine' w_sub_ff ?fa ?fb ?fk ?_; (case fa => kwd_rel); (case fb => kwd_rel); (case fk => decide); intro zf hf; (try simp only [Nat.max_def, Nat.reduceLeDiff, reduceIte, Nat.reduceAdd] at hf))))
local macro_rules | `(tactic| walk_at "binaryOp Div float float") => `(tactic| (k_dflt (refine' w_div_ff ?fA ?fa ?fb ?fk ?_; (case fA => rfl); (case fa => kwd_rel); (case fb => exact lit_ge1 (by decide +kernel)); (case fk => decide); intro zf hf)))
local macro_rules | `(tactic| walk_at "binaryOp Add float int") => `(tactic| (k_dflt (refine' w_add_fi ?fA ?fa ?fb ?fk ?_; (case fA => rfl); (case fa => kwd_rel); (case fb => kwd_inv); (case fk => decide); intro zf hf; (try simp only [Nat.max_def, Nat.reduceLeDiff, reduceIte, Nat.reduceAdd] at hf))))
local macro_rules | `(tactic| walk_at "binaryOp Add int float") => `(tactic| (k_dflt (refine' w_add_if ?fA ?fa ?fb ?fk ?_; (case fA => rfl); (case fa => kwd_rel); (case fb => kwd_inv); (case fk => decide); intro zf hf; (try simp only [Nat.max_def, Nat.reduceLeDiff, reduceIte, Nat.reduceAdd] at hf))))
local macro_rules | `(tactic| walk_at "binaryOp Sub float int") => `(tactic| (k_dflt (refine' w_sub_fi ?fA ?fa ?fb ?fk ?_; (case fA => rfl); (case fa => kwd_rel); (case fb => kwd_inv); (case fk => decide); intro zf hf; (try simp only [Nat.max_def, Nat.reduceLeDiff, reduceIte, Nat.reduceAdd] at hf))))
local macro_rules | `(tactic| walk_at "binaryOp Sub int float") => `(tactic| (k_dflt (refine' w_sub_if ?fA ?fa ?fb ?fk ?_; (case fA => rfl); (case fa => kwd_rel); (case fb => kwd_inv); (case fk => decide); intro zf hf; (try simp only [Nat.max_def, Nat.reduceLeDiff, reduceIte, Nat.reduceAdd] at hf))))
local macro_rules | `(tactic| walk_at "binaryOp Mult float int") => `(tactic| (k_dflt (refine' w_mul_fi ?fA ?fa ?fb ?fk ?_; (case fA => rfl); (case fa => kwd_rel); (case fb => kwd_inv); (case fk => decide); intro zf hf; (try simp only [Nat.reduceAdd] at hf))))
local macro_rules | `(tactic| walk_at "binaryOp Div float int") => `(tactic| (k_dflt (refine' w_div_fi ?fA ?fa ?fb ?f0 ?fj ?fk ?_; (case fA => rfl); (case fa => kwd_rel); (case fb => kwd_inv); (case f0 => decide); (case fj => decide); (case fk => decide); intro zf hf)))
local macro_rules | `(tactic| walk_at "binaryOp Mod float int") => `(tactic| (k_dflt (refine' w_mod_fi ?fA ?fa ?fb ?f0 ?fj ?_; (case fA => rfl); (case fa => kwd_rel); (case fb => kwd_inv); (case f0 => decide); (case fj => decide); intro zf hf; (try simp only [Nat.reduceAdd] at hf))))
local macro_rules | `(tactic| walk_at "binaryOp Div int int") => `(tactic| (k_dflt (refine' w_div_ii ?fA ?fb ?f0 ?fk ?_; (case fA => rfl); (case fb => kwd_inv); (case f0 => decide); (case fk => decide); intro zf hf)))
local macro_rules | `(tactic| walk_at "call builtin:math.floor") => `(tactic| (k_dflt (refine' w_floor ?fA ?fa ?_; (case fA => rfl); (case fa => kwd_rel); intro zf hf1 hf2)))
local macro_rules | `(tactic| walk_at "call builtin:math.trunc") => `(tactic| (k_dflt (refine' w_trunc ?fA ?fa ?_; (case fA => rfl); (case fa => kwd_rel); intro zf hf1 hf2)))
local macro_rules | `(tactic| walk_at "call type:int") => `(tactic| (k_dflt (refine' w_int ?fA ?fa ?_; (case fA => rfl); (case fa => kwd_rel); intro zf hf1 hf2)))

-- a def entered where the frames' number is a letter
local macro_rules | `(tactic| walk_at "call ref") => `(tactic| (k_here; k_dflt (refine wpAny_call ?_; (refine' code_def ?k1 ?k2 ?k3 ?k4 ?k5 ?kA ?kF ?kK ?k6 ?k7 ?k8 ?k9 ?kB ?_ ?c2 ?c3 ?c4 ?c5; (case kA => exact rfl); (case kF => exact rfl); (case kK => first | exact rfl | assumption); (case k1 => k_asm); (case k2 => k_asm); (case k3 => k_asm); (case k4 => k_asm); (case k5 => k_asm); (case k6 => k_is); (case k7 => k_is); (case k8 => ktr_room); (case k9 => exact BindsTo.of_eq rfl); (case c5 => decide); (case kB => exact locs rfl); (case c2 => exact rfl); (case c3 => exact rfl); (case c4 => exact rfl); k_whole; intro g' L' h' FG' F' N' B' X' T'; (try dsimp only); (try k_lift B'); (try k_fold)))))

local macro_rules | `(tactic| walk_at "compareOp In int ref") => `(tactic| (k_here; k_dflt (refine' in30 ?k1 ?k2 ?_; (case k1 => k_asm); (case k2 => k_asm)); intro b9))
local macro_rules | `(tactic| walk_at "binaryOp Div int float") => `(tactic| (k_dflt (refine' w_div_if ?fA ?fb ?fc ?fk ?_; (case fA => rfl); (case fb => kwd_inv); (case fc => exact lit_ge1 (by decide +kernel)); (case fk => decide); intro zf hf)))
local macro_rules | `(tactic| walk_at "eval Call") => `(tactic| ((with_reducible show wpAny _ _ (eval (Expr.Call (Expr.Name _ _) _ [] _) _) _ _ _); refine Call_ ?_))
local macro_rules | `(tactic| walk_at "noteFrame ref") => `(tactic| (k_here; (with_reducible rename Heap.NewExc _ _ _ _ => nxX); k_dflt (refine' caught_from ?cK ?cF ?cN nxX ?cX ?cT ?c1 ?c2 ?_; (case cK => assumption); (case cF => assumption); (case cN => assumption); (case cX => assumption); (case cT => assumption); (case c1 => k_is); (case c2 => k_is)); clear nxX; intro h' tk' G' m' e' R' F' U'; (try dsimp only)))
local macro_rules | `(tactic| walk_at "binaryOp Mult ref int") => `(tactic| (k_here; k_dflt (refine' mulF ?k1 ?k2 ?k3 ?k4 ?k5 ?_; (case k1 => k_asm); (case k2 => with_reducible assumption); (case k3 => first | omega | decide); (case k4 => first | omega | decide); (case k5 => decide)); intro D9 h9 its9 F9 N9 s9 l9; (try k_lt l9)))
local macro_rules | `(tactic| walk_at "binaryOp Mult int ref") => `(tactic| (k_here; k_dflt (refine' mulFr ?k1 ?k2 ?k3 ?k4 ?k5 ?_; (case k1 => k_asm); (case k2 => with_reducible assumption); (case k3 => first | omega | decide); (case k4 => first | omega | decide); (case k5 => decide)); intro D9 h9 its9 F9 N9 s9 l9; (try k_lt l9)))
local macro_rules | `(tactic| walk_at "binaryOp Add ref ref") => `(tactic| (k_here; k_dflt (refine' addF ?k1 ?k2 ?k3 ?k4 ?_; (case k1 => k_asm); (case k2 => with_reducible assumption); (case k3 => first | omega | ((have rz := rsz (by with_reducible assumption)); omega)); (case k4 => first | omega | ((have rz := rsz (by with_reducible assumption)); omega))); intro D9 h9 its9 F9 N9 s9 l9; (try k_lt l9)))
local macro_rules | `(tactic| walk_at "binaryOp Mod int int") => `(tactic| (k_here; k_dflt (refine' mod7 ?_); intro z9 hz1 hz2))
local macro_rules | `(tactic| walk_at "storeName") => `(tactic| (k_here; k_dflt (refine' storeX_C ?F ?N ?c ?U ?d ?_ ?a ?b; (case a => rfl); (case b => rfl); (case F => k_asm); (case N => k_asm); (case c => rfl); (case U => exact upd2 (by assumption) (by k_ne)); (case d => k_asm)); intro h' o' F' N' d'; (try dsimp only at N')))
theorem c_jwday (w : World) (loose : List Str) (mean : ExcName → Option Value) (mg mb : Str → Option Value) (x : UInt64) (t : Tok) (hx : Bd x 44) :
    Claim w loose mean mg mb 1 49 [.float x t] (fun r => ∃ n t, r = .int n t ∧ 0 ≤ n ∧ n ≤ 6) := by
  unfold Claim
  k_fill
  dsimp only [Ret]
  intros
  rename_i hret
  refine wpAny_call ?_
  k_dflt cell_enter
  k_steps
  all_goals (refine' hret _ _ _ ?eP ?eF ?eN; (case eF => with_reducible assumption); (case eN => first | with_reducible assumption | (refine' cb_drop ?cbN ?cbS; (case cbN => with_reducible assumption); (case cbS => kcj_all))); (case eP => exact ⟨_, _, rfl, by with_reducible assumption, by with_reducible assumption⟩))
end
section
theorem walk_MMlen : True := by
  w_top off
  trivial
local macro_rules | `(tactic| walk_at "spare line") => `(tactic| skip)
-- a float's bound, an int's bound, a bound's number
local macro_rules | `(tactic| kwd_rel) => `(tactic| first | assumption | exact lit_bd (k := 22) (by decide +kernel))
local macro_rules | `(tactic| kwd_inv) => `(tactic| first | exact And.intro (by assumption) (by assumption) | ((show -(2 ^ 8 : Int) ≤ _ ∧ _ ≤ (2 ^ 8 : Int)); constructor <;> omega) | ((show -(2 ^ 20 : Int) ≤ _ ∧ _ ≤ (2 ^ 20 : Int)); constructor <;> omega) | ((show -(2 ^ 40 : Int) ≤ _ ∧ _ ≤ (2 ^ 40 : Int)); constructor <;> omega) | ((show -(2 ^ 60 : Int) ≤ _ ∧ _ ≤ (2 ^ 60 : Int)); constructor <;> omega) | ((show -(2 ^ 80 : Int) ≤ _ ∧ _ ≤ (2 ^ 80 : Int)); constructor <;> omega) | ((show -(2 ^ 115 : Int) ≤ _ ∧ _ ≤ (2 ^ 115 : Int)); constructor <;> omega) | ((show -(2 ^ 150 : Int) ≤ _ ∧ _ ≤ (2 ^ 150 : Int)); constructor <;> omega) | ((show -(2 ^ 215 : Int) ≤ _ ∧ _ ≤ (2 ^ 215 : Int)); constructor <;> omega))
local macro_rules | `(tactic| walk_at "binaryOp Add float float") => `(tactic| (k_dflt (refine' w_add_ff ?fa ?fb ?fk ?_; (case fa => kwd_rel); (case fb => kwd_rel); (case fk => decide); intro zf hf; (try simp only [Nat.max_def, Nat.reduceLeDiff, reduceIte, Nat.reduceAdd] at hf))))
local macro_rules | `(tactic| walk_at "inplaceOp Add float float") => `(tactic| (k_dflt (refine' w_iadd_ff ?fa ?fb ?fk ?_; (case fa => kwd_rel); (case fb => kwd_rel); (case fk => decide); intro zf hf; (try simp only [Nat.max_def, Nat.reduceLeDiff, reduceIte, Nat.reduceAdd] at hf))))
local macro_rules | `(tactic| walk_at "binaryOp Sub float float") => `(tactic| (k_dflt (refine' w_sub_ff ?fa ?fb ?fk ?_; (case fa => kwd_rel); (case fb => kwd_rel); (case fk => decide); intro zf hf; (try simp only [Nat.max_def, Nat.reduceLeDiff, reduceIte, Nat.reduceAdd] at hf))))
local macro_rules | `(tactic| walk_at "binaryOp Div float float") => `(tactic| (k_dflt (refine' w_div_ff ?fA ?fa ?fb ?fk ?_; (case fA => rfl); (case fa => kwd_rel); (case fb => exact lit_ge1 (by decide +kernel)); (case fk => decide); intro zf hf)))
local macro_rules | `(tactic| walk_at "binaryOp Add float int") => `(tactic| (k_dflt (refine' w_add_fi ?fA ?fa ?fb ?fk ?_; (case fA => rfl); (case fa => kwd_rel); (case fb => kwd_inv); (case fk => decide); intro zf hf; (try simp only [Nat.max_def, Nat.reduceLeDiff, reduceIte, Nat.reduceAdd] at hf))))
local macro_rules | `(tactic| walk_at "binaryOp Add int float") => `(tactic| (k_dflt (refine' w_add_if ?fA ?fa ?fb ?fk ?_; (case fA => rfl); (case fa => kwd_rel); (case fb => kwd_inv); (case fk => decide); intro zf hf; (try simp only [Nat.max_def, Nat.reduceLeDiff, reduceIte, Nat.reduceAdd] at hf))))
local macro_rules | `(tactic| walk_at "binaryOp Sub float int") => `(tactic| (k_dflt (refine' w_sub_fi ?fA ?fa ?fb ?fk ?_; (case fA => rfl); (case fa => kwd_rel); (case fb => kwd_inv); (case fk => decide); intro zf hf; (try simp only [Nat.max_def, Nat.reduceLeDiff, reduceIte, Nat.reduceAdd] at hf))))
local macro_rules | `(tactic| walk_at "binaryOp Sub int float") => `(tactic| (k_dflt (refine' w_sub_if ?fA ?fa ?fb ?fk ?_; (case fA => rfl); (case fa => kwd_rel); (case fb => kwd_inv); (case fk => decide); intro zf hf; (try simp only [Nat.max_def, Nat.reduceLeDiff, reduceIte, Nat.reduceAdd] at hf))))
local macro_rules | `(tactic| walk_at "binaryOp Mult float int") => `(tactic| (k_dflt (refine' w_mul_fi ?fA ?fa ?fb ?fk ?_; (case fA => rfl); (case fa => kwd_rel); (case fb => kwd_inv); (case fk => decide); intro zf hf; (try simp only [Nat.reduceAdd] at hf))))
local macro_rules | `(tactic| walk_at "binaryOp Div float int") => `(tactic| (k_dflt (refine' w_div_fi ?fA ?fa ?fb ?f0 ?fj ?fk ?_; (case fA => rfl); (case fa => kwd_rel); (case fb => kwd_inv); (case f0 => decide); (case fj => decide); (case fk => decide); intro zf hf)))
local macro_rules | `(tactic| walk_at "binaryOp Mod float int") => `(tactic| (k_dflt (refine' w_mod_fi ?fA ?fa ?fb ?f0 ?fj ?_; (case fA => rfl); (case fa => kwd_rel); (case fb => kwd_inv); (case f0 => decide); (case fj => decide); intro zf hf; (try simp only [Nat.reduceAdd] at hf))))
local macro_rules | `(tactic| walk_at "binaryOp Div int int") => `(tactic| (k_dflt (refine' w_div_ii ?fA ?fb ?f0 ?fk ?_; (case fA => rfl); (case fb => kwd_inv); (case f0 => decide); (case fk => decide); intro zf hf)))
local macro_rules | `(tactic| walk_at "call builtin:math.floor") => `(tactic| (k_dflt (refine' w_floor ?fA ?fa ?_; (case fA => rfl); (case fa => kwd_rel); intro zf hf1 hf2)))
local macro_rules | `(tactic| walk_at "call builtin:math.trunc") => `(tactic| (k_dflt (refine' w_trunc ?fA ?fa ?_; (case fA => rfl); (case fa => kwd_rel); intro zf hf1 hf2)))
local macro_rules | `(tactic| walk_at "call type:int") => `(tactic| (k_dflt (refine' w_int ?fA ?fa ?_; (case fA => rfl); (case fa => kwd_rel); intro zf hf1 hf2)))

-- a def entered where the frames' number is a letter
local macro_rules | `(tactic| walk_at "call ref") => `(tactic| (k_here; k_dflt (refine wpAny_call ?_; (refine' code_def ?k1 ?k2 ?k3 ?k4 ?k5 ?kA ?kF ?kK ?k6 ?k7 ?k8 ?k9 ?kB ?_ ?c2 ?c3 ?c4 ?c5; (case kA => exact rfl); (case kF => exact rfl); (case kK => first | exact rfl | assumption); (case k1 => k_asm); (case k2 => k_asm); (case k3 => k_asm); (case k4 => k_asm); (case k5 => k_asm); (case k6 => k_is); (case k7 => k_is); (case k8 => ktr_room); (case k9 => exact BindsTo.of_eq rfl); (case c5 => decide); (case kB => exact locs rfl); (case c2 => exact rfl); (case c3 => exact rfl); (case c4 => exact rfl); k_whole; intro g' L' h' FG' F' N' B' X' T'; (try dsimp only); (try k_lift B'); (try k_fold)))))

local macro_rules | `(tactic| walk_at "compareOp In int ref") => `(tactic| (k_here; k_dflt (refine' in30 ?k1 ?k2 ?_; (case k1 => k_asm); (case k2 => k_asm)); intro b9))
local macro_rules | `(tactic| walk_at "binaryOp Div int float") => `(tactic| (k_dflt (refine' w_div_if ?fA ?fb ?fc ?fk ?_; (case fA => rfl); (case fb => kwd_inv); (case fc => exact lit_ge1 (by decide +kernel)); (case fk => decide); intro zf hf)))
local macro_rules | `(tactic| walk_at "eval Call") => `(tactic| ((with_reducible show wpAny _ _ (eval (Expr.Call (Expr.Name _ _) _ [] _) _) _ _ _); refine Call_ ?_))
local macro_rules | `(tactic| walk_at "noteFrame ref") => `(tactic| (k_here; (with_reducible rename Heap.NewExc _ _ _ _ => nxX); k_dflt (refine' caught_from ?cK ?cF ?cN nxX ?cX ?cT ?c1 ?c2 ?_; (case cK => assumption); (case cF => assumption); (case cN => assumption); (case cX => assumption); (case cT => assumption); (case c1 => k_is); (case c2 => k_is)); clear nxX; intro h' tk' G' m' e' R' F' U'; (try dsimp only)))
local macro_rules | `(tactic| walk_at "compareOp Eq") => `(tactic| (k_here; k_dflt (refine' eq_word ?hw ?_; (case hw => assumption)); intro b9))
local macro_rules | `(tactic| walk_at "call ref") => `(tactic| (k_here; k_dflt (refine' use (c_leap _ _ _ _ _ _ _ ) ?k1 ?k2 ?k3 ?k4 ?k5 ?k6 ?kd ?ku ?_; (case k1 => k_asm); (case k2 => k_asm); (case k3 => k_asm); (case k4 => k_asm); (case k5 => k_asm); (case k6 => first | exact rfl | assumption); (case kd => ktr_room); (case ku => ktr_units)); (intro v9 h9 tk9 hP9 F9 N9; subst hP9); (try dsimp only); (try k_fold)))
theorem c_mlen (w : World) (loose : List Str) (mean : ExcName → Option Value) (mg mb : Str → Option Value) (y m : Int) (t1 t2 : Tok) (v : Value) (f : Bool) (hw : IsWord v f) (h1 : 1 ≤ m) (h2 : m ≤ 13) :
    Claim w loose mean mg mb 2 137 [.int y t1, .int m t2, v] (fun r => ∃ n t, r = .int n t ∧ (n = 5 ∨ n = 6 ∨ n = 30)) := by
  unfold Claim
  k_fill
  dsimp only [Ret]
  intros
  rename_i hret
  refine wpAny_call ?_
  k_dflt (refine' code_def ?k1 ?k2 ?k3 ?k4 ?k5 ?kA ?kF ?kK ?k6 ?k7 ?k8 ?k9 ?kB ?_ ?c2 ?c3 ?c4 ?c5; (case kA => exact rfl); (case kF => exact rfl); (case kK => first | exact rfl | assumption); (case k1 => k_asm); (case k2 => k_asm); (case k3 => k_asm); (case k4 => k_asm); (case k5 => k_asm); (case k6 => k_is); (case k7 => k_is); (case k8 => ktr_room); (case k9 => first | exact binds_K (by k_in) rfl (by k_is) rfl rfl rfl | exact BindsTo.of_eq rfl); (case c5 => decide); (case kB => exact locs rfl); (case c2 => exact rfl); (case c3 => exact rfl); (case c4 => exact rfl); k_whole; intro g' L' h' FG' F' N' B' X' T'; (try dsimp only); (try k_lift B'); (try k_fold))
  k_steps
  all_goals (refine' hret _ _ _ ?eP ?eF ?eN; (case eF => with_reducible assumption); (case eN => first | with_reducible assumption | (refine' cb_drop ?cbN ?cbS; (case cbN => with_reducible assumption); (case cbS => kcj_all))); (case eP => exact ⟨_, _, rfl, by decide⟩))
end
section
theorem walk_MComp : True := by
  w_top off
  trivial
/-- a list comprehension over a range with a step: its source -/
def Src7 (prog : Program) (w : World) (A : Around) (h₀ : Heap) (L : Addr) (m : Str → Option Value) (env : Env) (elt : Expr) (x : Str) (scope : Scope) (cl : List (Str × Addr)) (Fin : Shared → List Value → List (Addr × Obj) → Prop) (xv : Value) (s₁ : Shared) : Prop :=
  ∃ r b t u v n news, xv = .ref r ∧ A.handled = none ∧ Fr h₀ L s₁.heap m ∧ News h₀ L s₁.heap news ∧ IsRange s₁.heap r 0 b 7 t u v ∧ Builtin.Range.small 0 b 7 = true ∧ Builtin.Range.rangeSize 0 b 7 = ((n : Nat) : Int) ∧ n ≤ sizeLine ∧
    ∀ g, LCg.CompRest prog w A h₀ L m env elt x scope cl { s₁ with heap := g } (fun _ => True) (fun i v => i < n ∧ ∃ t, v = .int (0 + (i : Int) * 7) t) (Fin { s₁ with heap := g }) n 0 [] news
theorem comp7 {prog : Program} {w : World} {A : Around} {E : Value → Shared → Prop} {s : Shared} {h₀ : Heap} {L : Addr} {m : Str → Option Value} {env : Env} {elt iter : Expr} {x : Str} {px : Pos} {scope : Scope} {cl : List (Str × Addr)} {pos : Pos} {Q : Value → Shared → Prop}
    (F₀ : Fr h₀ L s.heap m) (hclos : closureFor scope env = pure cl) (hcell : ∀ y ∈ scope.names, y.2 ≠ .cell) (hkind : scope.kind = .function)
    (hnames : ∀ y ∈ scope.names, y.2 = .local → scope.names.lookup y.1 = some .local) (hx : scope.names.lookup x = some .local)
    (h : wpAny (model prog w) A (eval iter env) (Src7 prog w A h₀ L m env elt x scope cl (fun s₂ => LCg.FinE h₀ L m s₂ Q)) E s)
    (hs : ∀ x, foldedSetIterable iter env x = pure x := by intro _; rfl) :
    wpAny (model prog w) A (eval (.ListComp elt [⟨.Name x px, iter, [], 0⟩] scope pos) env) Q E s := by
  rw [eval_ListComp]
  refine wpAny_comprehension_free (use := none) rfl hs hclos hkind hnames (wpAny_mono h (fun xv s₁ h₁ => ?_) fun _ _ e => e)
  obtain ⟨r, b, t, u, v, n, news, e, hh, F, N, hr, hsm, hn, hsz, R⟩ := h₁
  rw [e]
  have newer : ∀ o : Obj, ∀ b o', s₁.heap.get? b = some o' → (s₁.heap.push o).get? b = some o' := fun o _ _ e => Heap.get?_push_of_some o e
  refine wpAny_pyIter_range hr hsm (LCg.block_U (Walks.range hh _ 0 7 n).bound hsz (fun i h st => ⟨_, st⟩) ?st hcell hkind hx ?hat ?fp
    (F.keeps (newer _)) (N.grown (newer _)) (Nat.ne_of_lt F.ns.lt) (next_is_new F) (fun p hp => Nat.ne_of_lt (Heap.lt_size (N p hp).1)) trivial (R _) ?fin)
  case st =>
    intro i h h' o nw st e1 e2 _ _ _
    have q : h.get? s₁.heap.objs.size = some _ := st
    show h'.get? s₁.heap.objs.size = some _
    rw [e2, ← e1]; exact q
  case hat =>
    show IsRangeIter _ _ _ _ _
    rw [hn]; simpa using Heap.get?_push_size _ rfl
  case fp =>
    intro b hb
    rw [List.mem_singleton.mp hb]
    show s₁.heap.objs.size < (s₁.heap.push _).objs.size
    rw [Heap.size_push]; exact Nat.lt_succ_self _
  case fin =>
    intro D C h tk m' ys news' F' N' o1 hC hC₀ hD₀ hCL hDL hCD off R'
    refine ⟨m', hC, fun h2 sb => R' D h2 tk (F'.change sb hCL hC₀) (fun p hp => ⟨sb.extBut _ _ ?_ (N' p hp).1, (N' p hp).2⟩) o1⟩
    rcases List.mem_cons.mp hp with e3 | hp
    · rw [e3]; exact Ne.symm hCD
    · exact off p hp
/-- each turn makes some object; the ledger goes on as it was -/
theorem turns7 {prog : Program} {w : World} {A : Around} {s : Shared} {h₀ : Heap} {L : Addr} {m : Str → Option Value} {env : Env} {elt : Expr} {x : Str} {scope : Scope} {cl : List (Str × Addr)} {n : Nat} {Fin : List Value → List (Addr × Obj) → Prop} {news : List (Addr × Obj)}
    (turn : ∀ (k : Int) t I oI C oC D m₂ ys h tk (E' : Value → Shared → Prop), 0 ≤ k → k ≤ 7 * (n : Int) → LCg.NsObj oC m₂ → m₂ x = some (.int k t) → Fr h₀ L h m → News h₀ L h ((I, oI) :: (C, oC) :: (D, LCg.lst ys) :: news) → LCg.Off3 I C D news → ((@Ne Nat I C) ∧ (@Ne Nat I D) ∧ (@Ne Nat C D)) →
      wpAny (model prog w) A (eval elt (compEnvC scope cl C env)) (fun _ s' => ∃ h' tk', s' = { s with heap := h', toks := tk' } ∧ Fr h₀ L h' m ∧ News h₀ L h' ((I, oI) :: (C, oC) :: (D, LCg.lst ys) :: news)) E' { s with heap := h, toks := tk })
    (fin : ∀ ys, Fin ys news) : LCg.CompRest prog w A h₀ L m env elt x scope cl s (fun _ => True) (fun i v => i < n ∧ ∃ t, v = .int (0 + (i : Int) * 7) t) Fin n 0 [] news := by
  have key : ∀ (j i : Nat) (ys : List Value), LCg.CompRest prog w A h₀ L m env elt x scope cl s (fun _ => True) (fun i v => i < n ∧ ∃ t, v = .int (0 + (i : Int) * 7) t) Fin j i ys news := by
    intro j
    induction j with
    | zero => exact fun i ys => LCg.CompRest.zero (fin ys)
    | succ j ih =>
      intro i ys
      refine LCg.CompRest.succ ?_
      intro v I oI C oC D m₂ h tk E' hv hC hx F N off ne
      obtain ⟨hi, t, ev⟩ := hv
      rw [ev] at hx
      refine wpAny_mono (turn _ t I oI C oC D m₂ ys h tk E' (by omega) (by omega) hC hx F N off ne) (fun y s₂ hq => ?_) fun _ _ e => e
      obtain ⟨h', tk', e, F', N'⟩ := hq
      exact ⟨h', tk', news, e, F', N', off, trivial, ih (i + 1) _⟩
  exact key n 0 []
theorem range7 {b : Int} (h0 : 0 ≤ b) (h1 : b ≤ 60) : Builtin.Range.small 0 b 7 = true ∧ ∃ n : Nat, Builtin.Range.rangeSize 0 b 7 = (n : Int) ∧ n ≤ 60 := by
  have q : ∀ k : Fin 61, Builtin.Range.small 0 (k.1 : Int) 7 = true ∧ Builtin.Range.rangeSize 0 (k.1 : Int) 7 = ((Builtin.Range.rangeSize 0 (k.1 : Int) 7).toNat : Int) ∧ (Builtin.Range.rangeSize 0 (k.1 : Int) 7).toNat ≤ 60 := by decide +kernel
  obtain ⟨k, e⟩ := Int.eq_ofNat_of_zero_le h0
  subst e
  have z := q ⟨k, by omega⟩
  exact ⟨z.1, _, z.2.1, z.2.2⟩
theorem src7 {prog : Program} {w : World} {A : Around} {s₁ : Shared} {h₀ : Heap} {L : Addr} {m : Str → Option Value} {env : Env} {elt : Expr} {x : Str} {scope : Scope} {cl : List (Str × Addr)} {Fin : Shared → List Value → List (Addr × Obj) → Prop} {r : Addr} {b : Int} {t u v : Tok} {news : List (Addr × Obj)}
    (F : Fr h₀ L s₁.heap m) (N : News h₀ L s₁.heap news) (hr : IsRange s₁.heap r 0 b 7 t u v) (hh : A.handled = none) (h0 : 0 ≤ b) (h1 : b ≤ 60)
    (turn : ∀ (k : Int) t I oI C oC D m₂ ys (g : Heap) h tk (E' : Value → Shared → Prop), 0 ≤ k → k ≤ 420 → LCg.NsObj oC m₂ → m₂ x = some (.int k t) → Fr h₀ L h m → News h₀ L h ((I, oI) :: (C, oC) :: (D, LCg.lst ys) :: news) → LCg.Off3 I C D news → ((@Ne Nat I C) ∧ (@Ne Nat I D) ∧ (@Ne Nat C D)) →
      wpAny (model prog w) A (eval elt (compEnvC scope cl C env)) (fun _ s' => ∃ h' tk', s' = { s₁ with heap := h', toks := tk' } ∧ Fr h₀ L h' m ∧ News h₀ L h' ((I, oI) :: (C, oC) :: (D, LCg.lst ys) :: news)) E' { s₁ with heap := h, toks := tk })
    (fin : ∀ (g : Heap) ys, Fin { s₁ with heap := g } ys news) : Src7 prog w A h₀ L m env elt x scope cl Fin (.ref r) s₁ := by
  obtain ⟨hs, n, hn, hle⟩ := range7 h0 h1
  refine ⟨r, b, t, u, v, n, news, rfl, hh, F, N, hr, hs, hn, Nat.le_trans hle (by rw [sizeLine_eq]; decide), fun g => turns7 (s := { s₁ with heap := g }) (fun k t I oI C oC D m₂ ys h tk E' h2 h3 hC hx F2 N2 off ne => ?_) (fin g)⟩
  exact turn k t I oI C oC D m₂ ys g h tk E' h2 (by omega) hC hx F2 N2 off ne
theorem news_drop {h₀ h : Heap} {L : Addr} {x : Addr × Obj} {l : List (Addr × Obj)} (N : News h₀ L h (x :: l)) : News h₀ L h l := fun p hp => N p (.tail _ hp)
end
section
theorem walk_MHelper : True := by
  w_top off
  trivial
local macro_rules | `(tactic| walk_at "spare line") => `(tactic| skip)
local macro_rules | `(tactic| walk_at "eval Call") => `(tactic| ((with_reducible show wpAny _ _ (eval (Expr.Call (Expr.Name _ _) _ [] _) _) _ _ _); refine Call_ ?_))
local macro_rules | `(tactic| walk_at "noteFrame ref") => `(tactic| (k_here; (with_reducible rename Heap.NewExc _ _ _ _ => nxX); k_dflt (refine' caught_from ?cK ?cF ?cN nxX ?cX ?cT ?c1 ?c2 ?_; (case cK => assumption); (case cF => assumption); (case cN => assumption); (case cX => assumption); (case cT => assumption); (case c1 => k_is); (case c2 => k_is)); clear nxX; intro h' tk' G' m' e' R' F' U'; (try dsimp only)))
local macro_rules | `(tactic| walk_at "binaryOp Mult ref int") => `(tactic| (k_here; k_dflt (refine' mulF ?k1 ?k2 ?k3 ?k4 ?k5 ?_; (case k1 => k_asm); (case k2 => with_reducible assumption); (case k3 => first | omega | decide); (case k4 => first | omega | decide); (case k5 => decide)); intro D9 h9 its9 F9 N9 s9 l9; (try k_lt l9)))
local macro_rules | `(tactic| walk_at "binaryOp Mult int ref") => `(tactic| (k_here; k_dflt (refine' mulFr ?k1 ?k2 ?k3 ?k4 ?k5 ?_; (case k1 => k_asm); (case k2 => with_reducible assumption); (case k3 => first | omega | decide); (case k4 => first | omega | decide); (case k5 => decide)); intro D9 h9 its9 F9 N9 s9 l9; (try k_lt l9)))
local macro_rules | `(tactic| walk_at "binaryOp Add ref ref") => `(tactic| (k_here; k_dflt (refine' addF ?k1 ?k2 ?k3 ?k4 ?_; (case k1 => k_asm); (case k2 => with_reducible assumption); (case k3 => first | omega | ((have rz := rsz (by with_reducible assumption)); omega)); (case k4 => first | omega | ((have rz := rsz (by with_reducible assumption)); omega))); intro D9 h9 its9 F9 N9 s9 l9; (try k_lt l9)))
local macro_rules | `(tactic| walk_at "binaryOp Mod int int") => `(tactic| (k_here; k_dflt (refine' mod7 ?_); intro z9 hz1 hz2))
local macro_rules | `(tactic| walk_at "storeName") => `(tactic| (k_here; k_dflt (refine' storeX_C ?F ?N ?c ?U ?d ?_ ?a ?b; (case a => rfl); (case b => rfl); (case F => k_asm); (case N => k_asm); (case c => rfl); (case U => exact upd2 (by assumption) (by k_ne)); (case d => k_asm)); intro h' o' F' N' d'; (try dsimp only at N')))
local macro_rules | `(tactic| walk_at "eval ListComp") => `(tactic| (k_here; k_dflt (refine comp7 (F₀ := by k_asm) (by with_unfolding_all rfl) (by decide) (by rfl) (by decide) (by rfl) ?_)))
local macro_rules | `(tactic| walk_at "Src7") => `(tactic| (k_here; k_dflt (refine' src7 ?F ?N ?r ?hh ?a ?b (fun k' t' I' oI' C' oC' D' m' ys' g' h' tk' E' hlo' hhi' hC' hx' F' N' off' ne' => ?_) (fun g ys D h tk F' N' o' => ?_); (case F => k_asm); (case N => k_asm); (case r => assumption); (case hh => rfl); (case a => omega); (case b => omega)); (all_goals (try (simp only [LCg.Off3, and_true] at off'))); (all_goals (try k_fold))))
local macro_rules | `(tactic| walk_at "subscriptTail Name Slice ref ref") => `(tactic| (k_here; k_dflt (refine' kmk_slice ?F ?N ?l ?p ?q ?_ ?s ?t ?z; (case F => k_asm); (case N => k_asm); (case l => kmk_list); (case p => kmk_part); (case q => kmk_part); (case s => with_unfolding_all rfl); (case t => kmk_pure); (case z => ((rw [PySem.sizeLine_eq]); (have rz := rsz (by with_reducible assumption)); omega))); intro D9 h9 F9 N9 l9))
theorem c_helper (w : World) (loose : List Str) (mean : ExcName → Option Value) (mg mb : Str → Option Value) (s0 n : Int) (t1 t2 : Tok) (h1 : 0 ≤ s0) (h2 : s0 ≤ 6) (h3 : n = 5 ∨ n = 6 ∨ n = 30) :
    Claim w loose mean mg mb 1 54 [.int s0 t1, .int n t2] (fun r => ∃ a, r = .ref a) := by
  unfold Claim
  k_fill
  dsimp only [Ret]
  intros
  rename_i hret
  refine wpAny_call ?_
  k_dflt (refine' code_defC ?k1 ?k2 ?k3 ?k4 ?k5 ?kA ?kF ?kK ?k6 ?k7 ?k8 ?k9 ?kB ?kD ?_ ?c2 ?c3 ?c4; (case kA => exact rfl); (case kF => exact rfl); (case kK => first | exact rfl | assumption); (case k1 => k_asm); (case k2 => k_asm); (case k3 => k_asm); (case k4 => k_asm); (case k5 => k_asm); (case k6 => k_is); (case k7 => k_is); (case k8 => ktr_room); (case k9 => exact BindsTo.of_eq rfl); (case kB => exact rfl); (case kD => decide +kernel); (case c2 => exact rfl); (case c3 => exact rfl); (case c4 => exact rfl); k_whole; intro g' L' h' tk' cells' FG' F' N' Y' B' X' T' l1; (try k_lt l1); k_cells Y'; (try simp only [List.cons_append, List.nil_append] at N'); (try dsimp only); (try k_lift B'); (try k_fold))
  k_steps
  all_goals first
    | with_reducible assumption
    | exact news_drop (by with_reducible assumption)
    | (refine' hret _ _ _ ?eP ?eF ?eN; (case eF => with_reducible assumption); (case eN => first | with_reducible assumption | (refine' cb_drop ?cbN ?cbS; (case cbN => with_reducible assumption); (case cbS => kcj_all))); (case eP => exact ⟨_, rfl⟩))
    | trace_state
end
section
theorem walk_MMcal : True := by
  w_top off
  trivial
local macro_rules | `(tactic| walk_at "eval Call") => `(tactic| ((with_reducible show wpAny _ _ (eval (Expr.Call (Expr.Name _ _) _ [] _) _) _ _ _); refine Call_ ?_))
local macro_rules | `(tactic| walk_at "noteFrame ref") => `(tactic| (k_here; (with_reducible rename Heap.NewExc _ _ _ _ => nxX); k_dflt (refine' caught_from ?cK ?cF ?cN nxX ?cX ?cT ?c1 ?c2 ?_; (case cK => assumption); (case cF => assumption); (case cN => assumption); (case cX => assumption); (case cT => assumption); (case c1 => k_is); (case c2 => k_is)); clear nxX; intro h' tk' G' m' e' R' F' U'; (try dsimp only)))
local macro_rules | `(tactic| walk_at "call ref") => `(tactic| (k_here; k_dflt (refine' use3 (c_tojd _ _ _ _ _ _ _ _ _ _ _ _ _ ?kw ?ky) ?kX ?kT ?kD ?k1 ?k2 ?k3 ?k4 ?k5 ?k6 ?kd ?ku ?_ ?_; (case k2 => k_asm); (case k1 => k_asm); (case k3 => k_asm); (case k4 => k_asm); (case k5 => k_asm); (case kX => assumption); (case kT => assumption); (case kD => assumption); (case k6 => first | exact rfl | assumption); (case kd => ktr_room); (case ku => ktr_units); (case kw => assumption); (case ky => first | assumption | omega)); rotate_left; (intro e9 g9 h9 tk9 hX9 F9 R9 U9; (try dsimp only)); rotate_right; (intro v9 h9 tk9 hP9 F9 N9; obtain ⟨hD9, z9, t9, e9, hz9⟩ := hP9; subst e9; (have hB9 := due_bounds hD9); obtain ⟨hB1, hB2, hB3, hB4, hB5⟩ := hB9; (try dsimp only))))
local macro_rules | `(tactic| walk_at "call ref") => `(tactic| (k_here; k_dflt (refine' use (c_jwday _ _ _ _ _ _ _ ?kw) ?k1 ?k2 ?k3 ?k4 ?k5 ?k6 ?kd ?ku ?_; (case k1 => k_asm); (case k2 => k_asm); (case k3 => k_asm); (case k4 => k_asm); (case k5 => k_asm); (case k6 => first | exact rfl | assumption); (case kd => ktr_room); (case ku => ktr_units); (case kw => assumption)); (intro v9 h9 tk9 hP9 F9 N9; obtain ⟨n9, t9, e9, hn1, hn2⟩ := hP9; subst e9); (try dsimp only); (try k_fold)))
local macro_rules | `(tactic| walk_at "call ref") => `(tactic| (k_here; k_dflt (refine' use (c_mlen _ _ _ _ _ _ _ _ _ _ _ ?kw ?ka ?kb) ?k1 ?k2 ?k3 ?k4 ?k5 ?k6 ?kd ?ku ?_; (case k1 => k_asm); (case k2 => k_asm); (case k3 => k_asm); (case k4 => k_asm); (case k5 => k_asm); (case k6 => first | exact rfl | assumption); (case kd => ktr_room); (case ku => ktr_units); (case kw => assumption); (case ka => assumption); (case kb => assumption)); (intro v9 h9 tk9 hP9 F9 N9; obtain ⟨n9, t9, e9, hn3⟩ := hP9; subst e9); (try dsimp only); (try k_fold)))
local macro_rules | `(tactic| walk_at "call ref") => `(tactic| (k_here; k_dflt (refine' use (c_helper _ _ _ _ _ _ _ _ _ ?ka ?kb ?kc) ?k1 ?k2 ?k3 ?k4 ?k5 ?k6 ?kd ?ku ?_; (case k1 => k_asm); (case k2 => k_asm); (case k3 => k_asm); (case k4 => k_asm); (case k5 => k_asm); (case k6 => first | exact rfl | assumption); (case kd => ktr_room); (case ku => ktr_units); (case ka => assumption); (case kb => assumption); (case kc => assumption)); (intro v9 h9 tk9 hP9 F9 N9; obtain ⟨a9, e9⟩ := hP9; subst e9); (try dsimp only); (try k_fold)))
theorem c_mcal (w : World) (loose : List Str) (mean : ExcName → Option Value) (mg mb : Str → Option Value) (y m : Int) (t1 t2 : Tok) (v : Value) (f : Bool) (hw : IsWord v f) (hy : y ≤ 100000000) :
    Claim3 w loose mean mg mb 5 145 [.int y t1, .int m t2, v] (fun r => Due f y m 1 ∧ ∃ a, r = .ref a) (¬ Due f y m 1) := by
  unfold Claim3
  k_fill
  dsimp only [Ret]
  intros
  rename_i hret hexc
  refine wpAny_call ?_
  k_dflt (refine' code_defS ?k1 ?k2 ?k3 ?k4 ?k5 ?XB ?TB ?D ?T0 ?kA ?k6 ?k7 ?k8 ?k9 ?kB ?_ ?cK ?c2 ?c3 ?c4 ?c5; (case kA => exact rfl); (case k2 => k_asm); (case k1 => k_asm); (case XB => assumption); (case TB => assumption); (case D => assumption); (case T0 => exact KtsTurn.refl); (case k3 => k_asm); (case k4 => k_asm); (case k5 => k_asm); (case k6 => k_is); (case k7 => k_is); (case k8 => ktr_room); (case k9 => first | exact binds_K (by k_in) rfl (by k_is) rfl rfl rfl | exact BindsTo.of_eq rfl); (case kB => exact locs rfl); (case cK => first | assumption | exact rfl); (case c2 => exact rfl); (case c3 => exact rfl); (case c4 => exact rfl); (case c5 => decide); k_whole; intro g' L' h' FG' F' N' B' X' T' D'; (try dsimp only); (try k_lift B'); (try k_fold))
  k_steps
  all_goals (first
    | (refine' hexc _ _ _ _ ?eX ?eF ?eR ?eU; (case eR => with_reducible assumption); (case eU => with_reducible assumption); (case eF => with_reducible assumption); (case eX => with_reducible assumption))
    | (refine' hret _ _ _ ?eP ?eF ?eN; (case eF => with_reducible assumption); (case eN => with_reducible assumption); (case eP => exact ⟨by with_reducible assumption, _, rfl⟩)))
end
section
theorem walk_MLeaf : True := by
  w_top off
  trivial
local macro_rules | `(tactic| walk_at "eval Call") => `(tactic| ((with_reducible show wpAny _ _ (eval (Expr.Call (Expr.Name _ _) _ [] _) _) _ _ _); refine Call_ ?_))
local macro_rules | `(tactic| walk_at "noteFrame ref") => `(tactic| (k_here; (with_reducible rename Heap.NewExc _ _ _ _ => nxX); k_dflt (refine' caught_from ?cK ?cF ?cN nxX ?cX ?cT ?c1 ?c2 ?_; (case cK => assumption); (case cF => assumption); (case cN => assumption); (case cX => assumption); (case cT => assumption); (case c1 => k_is); (case c2 => k_is)); clear nxX; intro h' tk' G' m' e' R' F' U'; (try dsimp only)))
local macro_rules | `(tactic| walk_at "call ref") => `(tactic| (k_here; k_dflt (refine' use3 (c_mcal _ _ _ _ _ _ _ _ _ _ _ ?kw ?ky) ?kX ?kT ?kD ?k1 ?k2 ?k3 ?k4 ?k5 ?k6 ?kd ?ku ?_ ?_; (case k2 => k_asm); (case k1 => k_asm); (case k3 => k_asm); (case k4 => k_asm); (case k5 => k_asm); (case kX => assumption); (case kT => assumption); (case kD => assumption); (case k6 => first | exact rfl | assumption); (case kd => ktr_room); (case ku => ktr_units); (case kw => assumption); (case ky => first | assumption | omega)); rotate_left; (intro e9 g9 h9 tk9 hX9 F9 R9 U9; (try dsimp only)); rotate_right; (intro v9 h9 tk9 hP9 F9 N9; obtain ⟨hD9, a9, e9⟩ := hP9; subst e9; (try dsimp only))))
theorem c_leaf (w : World) (loose : List Str) (mean : ExcName → Option Value) (mg mb : Str → Option Value) (y m : Int) (t1 t2 : Tok) (v : Value) (f : Bool) (hw : IsWord v f) (hy : y ≤ 100000000) :
    Claim2 w loose mean mg mb 180 [.int y t1, .int m t2, v] (fun r => (Due f y m 1 ∧ r = .bool true) ∨ (¬ Due f y m 1 ∧ r = .bool false)) := by
  unfold Claim2
  k_fill
  dsimp only [Ret]
  intros
  rename_i hret
  refine wpAny_call ?_
  k_dflt (refine' code_defS0 ?k1 ?k2 ?k3 ?k4 ?k5 ?kA ?k6 ?k7 ?k8 ?k9 ?kB ?_ ?cK ?c2 ?c3 ?c4 ?c5; (case kA => exact rfl); (case k2 => k_asm); (case k1 => k_asm); (case k3 => k_asm); (case k4 => k_asm); (case k5 => k_asm); (case k6 => k_is); (case k7 => k_is); (case k8 => k_room); (case k9 => first | exact binds_K (by k_in) rfl (by k_is) rfl rfl rfl | exact BindsTo.of_eq rfl); (case kB => exact locs rfl); (case cK => first | assumption | exact rfl); (case c2 => exact rfl); (case c3 => exact rfl); (case c4 => exact rfl); (case c5 => decide); k_whole; intro g' L' h' FG' F' N' B' X' T' D'; (try dsimp only); (try k_lift B'); (try k_fold))
  k_steps
  all_goals (refine' hret _ _ _ ?eP ?eF ?eN; (case eF => with_reducible assumption); (case eN => with_reducible assumption); (case eP => first | exact .inl ⟨by with_reducible assumption, rfl⟩ | exact .inr ⟨by with_reducible assumption, rfl⟩))
end
section
theorem walk_MLoops : True := by
  w_top off
  trivial
local macro_rules | `(tactic| walk_at "spare line") => `(tactic| skip)
section
variable {prog : Program} {w : World} {A : Around} {E : Value → Shared → Prop} {s : Shared} {env : Env} {h₀ : Heap} {x : Str} {body : List Stmt} {Q : Flow → Shared → Prop}
/-- the walk stops here -/
def Stop (p : Prop) : Prop := p
theorem unstop {p : Prop} (h : Stop p) : p := h
/-- a list of the ledger grows in place by another one -/
theorem iadd_F {L : Addr} {m : Str → Option Value} {news : List (Addr × Obj)} {l b : Addr} {its its2 : Array Value} {c c2 : Nat} {up : Obj → List (Addr × Obj)} {R : Value → Shared → Prop}
    (F : Fr h₀ L s.heap m) (N : News h₀ L s.heap news) (U : UpdF l (W.listOf its c) news up) (hb : (b, W.listOf its2 c2) ∈ news) (hsz : its.size + its2.size ≤ 1000)
    (h : ∀ h' n', Fr h₀ L h' m → News h₀ L h' (up (W.listOf (its ++ its2) n')) → R (.ref l) { s with heap := h' }) : wpAny (model prog w) A (inplaceOp .Add (.ref l) (.ref b)) R E s := by
  obtain ⟨pre, post, e1, e2, o1, o2⟩ := U.split
  rw [e1] at N hb
  have hl := N (l, W.listOf its c) (List.mem_append_right _ (.head _))
  have hB := N _ hb
  have hT : s.TypeIs (.ref l) "list" := ⟨_, hl.1, rfl⟩
  have hT2 : s.TypeIs (.ref b) "list" := ⟨_, hB.1, rfl⟩
  have hs : isSeqSlot (some (.builtin "list.__iadd__")) = true := by decide +kernel
  have hfi : fillsInplaceSlot (.type "list") "add" (Operator.Add == .Add) = pure false := by
    unfold fillsInplaceSlot
    show (typeLookup (.type "list") (dunderI "add") >>= fun fi => pure (fi.isSome && !isSeqSlot fi)) = pure false
    rw [PySem.F.slot_list_iadd.lookup, pure_bind, hs]
    rfl
  have hsi : seqSlot? (.type "list") (dunderI "add") = pure (some (.builtin "list.__iadd__")) := PySem.seqSlot_of PySem.F.slot_list_iadd.lookup hs
  unfold inplaceOp
  refine wpAny_holding ?_
  refine wpAny_bind (wpAny_typeOf hT (wpAny_bind (wpAny_of_eq hfi ?_)))
  show wpAny _ A (if false = true then _ else _) R E s
  rw [if_neg Bool.false_ne_true]
  refine wpAny_bind (wpAny_binaryOp1_none (nm := "add") hT hT2 PySem.noFill_list_add ?_)
  refine wpAny_bind (wpAny_of_eq hsi ?_)
  refine wpAny_bind (wpAny_rule ?_)
  refine call_meets PySem.F.slot_list_iadd hT PySem.F.entry_list_iadd (PySem.F.args_list_iadd_2 _ _) (AutoSeq1.list___iadd___list_list_0 l its c b its2 c2 (extend_door (by rw [sizeLine_eq]; omega)) (by rw [sizeLine_eq]; omega) (by rw [sizeLine_eq]; omega)) ⟨hl.1, hB.1, ?_⟩
  have ho : (s.heap.update l (Obj.mapSeq fun x => x ++ its2)).get? l = some (W.listOf (its ++ its2) (if (its ++ its2).size == its.size then c else c + 1)) := Heap.get?_update_self _ hl.1 rfl
  refine h _ (if (its ++ its2).size == its.size then c else c + 1) (F.change (Heap.SameBut.update ..) hl.2.1 hl.2.2) ?_
  rw [e2]
  exact N.setIn o1 o2 (Heap.SameBut.update ..) ho
/-- names of which nothing is kept -/
def forget (u m₀ : Str → Option Value) : List Str → Str → Option Value
  | [], z => m₀ z
  | n :: ns, z => if z = n then u z else forget u m₀ ns z
theorem forget_self {m m₀ : Str → Option Value} : ∀ {names : List Str}, (∀ z, z ∉ names → m z = m₀ z) → forget m m₀ names = m
  | [], h => funext fun z => (h z (by simp)).symm
  | n :: ns, h => by
    funext z
    show (if z = n then m z else forget m m₀ ns z) = m z
    by_cases e : z = n
    · rw [if_pos e]
    · rw [if_neg e]
      suffices hs : ∀ (l : List Str), (z ∉ l → m z = m₀ z) → forget m m₀ l z = m z by
        exact hs ns fun hz => h z (by simp [e, hz])
      intro l
      induction l with
      | nil => exact fun q => (q (by simp)).symm
      | cons a l ih =>
        intro q
        show (if z = a then m z else forget m m₀ l z) = m z
        by_cases e2 : z = a
        · rw [if_pos e2]
        · rw [if_neg e2]
          exact ih fun hz => q (by simp [e2, hz])
/-- a turn's end: the frame keeps all but the named names, the ledger stays -/
def TurnEnd (h₀ : Heap) (L : Addr) (m₀ : Str → Option Value) (names : List Str) (led : List (Addr × Obj)) (s : Shared) (f : Flow) (s₂ : Shared) : Prop :=
  f = .next ∧ ∃ h' tk' m', s₂ = { s with heap := h', toks := tk' } ∧ Fr h₀ L h' m' ∧ News h₀ L h' led ∧ (∃ k t, m' (Str.ofString "turn") = some (.int k t)) ∧ ∀ z, z ∉ Str.ofString "turn" :: names → m' z = m₀ z
theorem turn_form {m' m₀ : Str → Option Value} {names : List Str} {k : Int} {t : Tok} (h1 : m' (Str.ofString "turn") = some (.int k t)) (h2 : ∀ z, z ∉ Str.ofString "turn" :: names → m' z = m₀ z) :
    m' = fun z => if z = Str.ofString "turn" then some (.int k t) else forget m' m₀ names z := by
  have e : m' = forget m' m₀ (Str.ofString "turn" :: names) := (forget_self h2).symm
  funext z
  by_cases q : z = Str.ofString "turn"
  · rw [if_pos q, q, h1]
  · rw [if_neg q]
    have := congrFun e z
    rw [this]
    show (if z = Str.ofString "turn" then m' z else forget m' m₀ names z) = _
    rw [if_neg q]
/-- a loop over a list of the ledger -/
theorem iter_led {l : Addr} {its : Array Value} {c : Nat} {m₀ : Str → Option Value} {news : List (Addr × Obj)} (P : Value → Prop) (names : List Str) {k0 : Int} {t0 : Tok}
    (F : Fr h₀ env.locals s.heap m₀) (N : News h₀ env.locals s.heap news) (hm : (l, W.listOf its c) ∈ news) (hh : A.handled = none) (hP : ∀ v ∈ its, P v) (ht : m₀ (Str.ofString "turn") = some (.int k0 t0))
    (turn : ∀ v k t u h tk led, P v → Fr h₀ env.locals h (fun z => if z = x then some v else if z = Str.ofString "turn" then some (.int k t) else forget u m₀ names z) → News h₀ env.locals h led → (∀ p ∈ news, p ∈ led) →
      wpAny (model prog w) A (execs body env) (TurnEnd h₀ env.locals m₀ names led { s with heap := h, toks := tk }) E { s with heap := h, toks := tk })
    (done : ∀ k t u h tk, Fr h₀ env.locals h (fun z => if z = Str.ofString "turn" then some (.int k t) else forget u m₀ names z) → News h₀ env.locals h news → Q .next { s with heap := h, toks := tk }) :
    wpAny (model prog w) A (pyIter (.ref l)) (fun it s₂ => LoopAtV prog w A h₀ env x body Q E it s₂) E s := by
  have hN := N _ hm
  have hls : s.heap.IsList l its := ⟨_, hN.1, rfl, _, rfl⟩
  have hlt : l < s.heap.objs.size := Heap.lt_size hN.1
  have hne : l ≠ s.heap.objs.size := Nat.ne_of_lt hlt
  refine wpAny_pyIter_list hls ?_
  have W := Walks.list (prog := prog) (w := w) hh s.heap.objs.size l hne its
  refine ⟨_, _, _, its.size, _, _, m₀, news, fun _ m₁ news₁ => news₁ = news ∧ (∃ k t, m₁ (Str.ofString "turn") = some (.int k t)) ∧ ∀ z, z ∉ Str.ofString "turn" :: names → m₁ z = m₀ z, rfl, W, ?_, ?_, ?_, ⟨⟨_, Heap.get?_push_size _ rfl, rfl, rfl⟩, hls.at fun o e => Heap.get?_push_of_some _ e⟩, F.push _, (fun p hp => ⟨Heap.get?_push_of_some _ (N p hp).1, (N p hp).2⟩), ⟨rfl, ⟨_, _, ht⟩, fun _ _ => rfl⟩, ?_, ?_⟩
  · intro hm
    rcases List.mem_cons.mp hm with e | hm
    · exact absurd F.ns.lt (e ▸ Nat.lt_irrefl _)
    · exact hN.2.1 (List.mem_singleton.mp hm).symm
  · intro b hb
    rw [List.mem_singleton.mp hb]
    exact next_is_new F
  · intro p hp hI
    exact absurd (Heap.lt_size (N p hp).1) ((List.mem_singleton.mp hI) ▸ Nat.lt_irrefl _)
  · intro i v m₁ news₁ s₁ own hs1 hin hv hJ hoff _ _ _ _ F₁ N₁
    obtain ⟨hh', tk', e⟩ := hs1
    obtain ⟨e2, ⟨k, t, hk⟩, hz⟩ := hJ
    subst e e2
    rw [turn_form hk hz] at F₁
    refine wpAny_mono (turn v k t m₁ hh' tk' (own ++ news₁) (hP v ?_) F₁ N₁ (fun p hp => List.mem_append_right _ hp)) (fun f s₂ p => ?_) fun _ _ e => e
    · have hv' : its[i]? = some v := hv
      exact Array.mem_of_getElem? hv'
    · obtain ⟨ef, h', tk2, m', es, F', N', ht', hz'⟩ := p
      subst ef
      exact .next ⟨rfl, h', tk2, m', news₁, es, F', N', hoff, rfl, ht', hz'⟩
  · intro h' tk m' news' F' N' _ hJ
    obtain ⟨e, ⟨k, t, hk⟩, hz⟩ := hJ
    subst e
    rw [turn_form hk hz] at F'
    exact done k t m' h' tk F' N'
theorem For_mine {px pos : Pos} {iter : Expr} {m : Str → Option Value} (F : Fr h₀ env.locals s.heap m) (hx : env.kindOf x = some .local) (hp : (env.scope.kind == .class || (env.scope.kind == .module && env.locals != env.globals)) = false)
    (h : wpAny (model prog w) A (eval iter env) (fun xv s₁ => wpAny (model prog w) A (pyIter xv) (fun it s₂ => LoopAtV prog w A h₀ env x body Q E it s₂) E s₁) E s)
    (hs : ∀ x, foldedSetIterable iter env x = pure x := by intro _; rfl) (hE : PassesOwn (model prog w) A env E := by passes_own) :
    wpAny (model prog w) A (exec (.For (.Name x px) iter body [] pos) env) Q E s := by
  have _ := F
  exact For_invV h₀ hx hp h hs hE
end
theorem go_on {p : Prop} (h : p) : Stop p := h
abbrev tup3 (y m d : Int) (ty tm td : Tok) : Obj := { cls := .type "tuple", data := .seq #[.int y ty, .int m tm, .int d td] }
/-- a row of the law's cases -/
def CaseAt (news : List (Addr × Obj)) (v : Value) : Prop := ∃ a y m d ty tm td, v = .ref a ∧ (a, tup3 y m d ty tm td) ∈ news ∧ y ≤ 100000000
theorem CaseAt.mono {news led : List (Addr × Obj)} {v : Value} (h : CaseAt news v) (hs : ∀ p ∈ news, p ∈ led) : CaseAt led v := by
  obtain ⟨a, y, m, d, ty, tm, td, e, hm, hy⟩ := h
  exact ⟨a, y, m, d, ty, tm, td, e, hs _ hm, hy⟩
/-- the law's frame, as far as its loops read it -/
def Mf (yr mo ev : Int) (ty tm te : Tok) (lc : Addr) (u : Str → Option Value) : Str → Option Value := fun z =>
  if z = Str.ofString "year" then some (.int yr ty) else if z = Str.ofString "month" then some (.int mo tm) else if z = Str.ofString "even" then some (.int ev te) else if z = Str.ofString "cases" then some (.ref lc) else u z
theorem Mf_self {m : Str → Option Value} {yr mo ev : Int} {ty tm te : Tok} {lc : Addr} (h1 : m (Str.ofString "year") = some (.int yr ty)) (h2 : m (Str.ofString "month") = some (.int mo tm)) (h3 : m (Str.ofString "even") = some (.int ev te)) (h4 : m (Str.ofString "cases") = some (.ref lc)) :
    Mf yr mo ev ty tm te lc m = m := by
  funext z
  unfold Mf
  by_cases e1 : z = Str.ofString "year"
  · rw [if_pos e1, e1, h1]
  · rw [if_neg e1]
    by_cases e2 : z = Str.ofString "month"
    · rw [if_pos e2, e2, h2]
    · rw [if_neg e2]
      by_cases e3 : z = Str.ofString "even"
      · rw [if_pos e3, e3, h3]
      · rw [if_neg e3]
        by_cases e4 : z = Str.ofString "cases"
        · rw [if_pos e4, e4, h4]
        · rw [if_neg e4]
section
variable {prog : Program} {w : World} {A : Around} {E : Value → Shared → Prop} {s : Shared} {env : Env} {h₀ : Heap} {x : Str} {body : List Stmt} {Q : Flow → Shared → Prop}
theorem outer {l lc : Addr} {itw itc : Array Value} {cw cc : Nat} {m₀ : Str → Option Value} {news : List (Addr × Obj)} (names : List Str) {k0 yr mo ev : Int} {t0 ty tm te : Tok}
    (F : Fr h₀ env.locals s.heap m₀) (N : News h₀ env.locals s.heap news) (hh : A.handled = none)
    (hy : m₀ (Str.ofString "year") = some (.int yr ty)) (hm : m₀ (Str.ofString "month") = some (.int mo tm)) (he : m₀ (Str.ofString "even") = some (.int ev te)) (hc : m₀ (Str.ofString "cases") = some (.ref lc)) (ht : m₀ (Str.ofString "turn") = some (.int k0 t0))
    (hmw : (l, W.listOf itw cw) ∈ news) (hmc : (lc, W.listOf itc cc) ∈ news) (hW : ∀ v ∈ itw, ∃ f, IsWord v f) (hC : ∀ v ∈ itc, CaseAt news v)
    (hY : 533 ≤ yr ∧ yr ≤ 10000000) (hM : 1 ≤ mo ∧ mo ≤ 13) (hE : 533 ≤ ev ∧ ev ≤ 10000000 ∧ ev.fmod 4 = 0)
    (turn : ∀ (itc : Array Value) (cc : Nat) (lc : Addr) (yr mo ev : Int) (ty tm te : Tok) (v : Value) (f : Bool) k t u u0 h tk led, 533 ≤ yr → yr ≤ 10000000 → 1 ≤ mo → mo ≤ 13 → 533 ≤ ev → ev ≤ 10000000 → ev.fmod 4 = 0 → IsWord v f → (lc, W.listOf itc cc) ∈ led → (∀ v ∈ itc, CaseAt led v) →
      Fr h₀ env.locals h (fun z => if z = x then some v else if z = Str.ofString "turn" then some (.int k t) else forget u (Mf yr mo ev ty tm te lc u0) names z) → News h₀ env.locals h led →
      wpAny (model prog w) A (execs body env) (TurnEnd h₀ env.locals (Mf yr mo ev ty tm te lc u0) names led { s with heap := h, toks := tk }) E { s with heap := h, toks := tk })
    (done : ∀ (lc : Addr) (yr mo ev : Int) (ty tm te : Tok) k t u u0 h tk led, 533 ≤ yr → yr ≤ 10000000 → 1 ≤ mo → mo ≤ 13 → 533 ≤ ev → ev ≤ 10000000 → ev.fmod 4 = 0 →
      Fr h₀ env.locals h (fun z => if z = Str.ofString "turn" then some (.int k t) else forget u (Mf yr mo ev ty tm te lc u0) names z) → News h₀ env.locals h led → Q .next { s with heap := h, toks := tk }) :
    wpAny (model prog w) A (pyIter (.ref l)) (fun it s₂ => LoopAtV prog w A h₀ env x body Q E it s₂) E s := by
  have e := Mf_self hy hm he hc
  refine iter_led (m₀ := Mf yr mo ev ty tm te lc m₀) (fun v => ∃ f, IsWord v f) names (by rw [e]; exact F) N hmw hh hW (by rw [e]; exact ht) ?_ ?_
  · intro v k t u h tk led hv F' N' hs
    obtain ⟨f, hw⟩ := hv
    exact turn itc cc lc yr mo ev ty tm te v f k t u m₀ h tk led hY.1 hY.2 hM.1 hM.2 hE.1 hE.2.1 hE.2.2 hw (hs _ hmc) (fun v hv => (hC v hv).mono hs) F' N'
  · intro k t u h tk F' N'
    exact done lc yr mo ev ty tm te k t u m₀ h tk news hY.1 hY.2 hM.1 hM.2 hE.1 hE.2.1 hE.2.2 F' N'
theorem inner {l : Addr} {itc : Array Value} {cc : Nat} {m₀ : Str → Option Value} {news : List (Addr × Obj)} (names : List Str) {k0 : Int} {t0 : Tok}
    (F : Fr h₀ env.locals s.heap m₀) (N : News h₀ env.locals s.heap news) (hh : A.handled = none) (ht : m₀ (Str.ofString "turn") = some (.int k0 t0))
    (hmc : (l, W.listOf itc cc) ∈ news) (hC : ∀ v ∈ itc, CaseAt news v)
    (turn : ∀ (a : Addr) (y m d : Int) (ty tm td : Tok) k t u h tk led, y ≤ 100000000 →
      Fr h₀ env.locals h (fun z => if z = x then some (.ref a) else if z = Str.ofString "turn" then some (.int k t) else forget u m₀ names z) → News h₀ env.locals h ((a, tup3 y m d ty tm td) :: led) →
      wpAny (model prog w) A (execs body env) (TurnEnd h₀ env.locals m₀ names led { s with heap := h, toks := tk }) E { s with heap := h, toks := tk })
    (done : ∀ k t u h tk, Fr h₀ env.locals h (fun z => if z = Str.ofString "turn" then some (.int k t) else forget u m₀ names z) → News h₀ env.locals h news → Q .next { s with heap := h, toks := tk }) :
    wpAny (model prog w) A (pyIter (.ref l)) (fun it s₂ => LoopAtV prog w A h₀ env x body Q E it s₂) E s := by
  refine iter_led (CaseAt news) names F N hmc hh hC ht ?_ done
  intro v k t u h tk led hv F' N' hs
  obtain ⟨a, y, m, d, ty, tm, td, e, hm, hy⟩ := hv
  subst e
  refine turn a y m d ty tm td k t u h tk led hy F' ?_
  intro p hp
  rcases List.mem_cons.mp hp with e | hp
  · rw [e]; exact N' _ (hs _ hm)
  · exact N' p hp
/-- a loop over the months -/
theorem months {r : Addr} {a b c : Tok} {m₀ : Str → Option Value} {news : List (Addr × Obj)} (names : List Str) {k0 : Int} {t0 : Tok}
    (F : Fr h₀ env.locals s.heap m₀) (N : News h₀ env.locals s.heap news) (hr : IsRange s.heap r 1 14 1 a b c) (hh : A.handled = none) (ht : m₀ (Str.ofString "turn") = some (.int k0 t0))
    (turn : ∀ (i : Int) ti k t u h tk led, 1 ≤ i → i ≤ 13 → Fr h₀ env.locals h (fun z => if z = x then some (.int i ti) else if z = Str.ofString "turn" then some (.int k t) else forget u m₀ names z) → News h₀ env.locals h led →
      wpAny (model prog w) A (execs body env) (TurnEnd h₀ env.locals m₀ names led { s with heap := h, toks := tk }) E { s with heap := h, toks := tk })
    (done : ∀ k t u h tk, Fr h₀ env.locals h (fun z => if z = Str.ofString "turn" then some (.int k t) else forget u m₀ names z) → News h₀ env.locals h news → Q .next { s with heap := h, toks := tk }) :
    wpAny (model prog w) A (pyIter (.ref r)) (fun it s₂ => LoopAtV prog w A h₀ env x body Q E it s₂) E s := by
  refine wpAny_pyIter_range hr (by decide) ?_
  have W := (Walks.range (prog := prog) (w := w) hh s.heap.objs.size 1 1 13).bound
  refine ⟨_, _, _, 13, _, _, m₀, news, fun _ m₁ news₁ => news₁ = news ∧ (∃ k t, m₁ (Str.ofString "turn") = some (.int k t)) ∧ ∀ z, z ∉ Str.ofString "turn" :: names → m₁ z = m₀ z, rfl, W, ?_, ?_, ?_, ?_, F.push _, (fun p hp => ⟨Heap.get?_push_of_some _ (N p hp).1, (N p hp).2⟩), ⟨rfl, ⟨_, _, ht⟩, fun _ _ => rfl⟩, ?_, ?_⟩
  · intro hm
    exact absurd F.ns.lt ((List.mem_singleton.mp hm) ▸ Nat.lt_irrefl _)
  · intro b hb
    rw [List.mem_singleton.mp hb]
    exact next_is_new F
  · intro p hp hI
    exact absurd (Heap.lt_size (N p hp).1) ((List.mem_singleton.mp hI) ▸ Nat.lt_irrefl _)
  · have q := Heap.get?_push_size s.heap (o := { cls := .type "range_iterator", data := .fields #[rawInt 1, rawInt (Builtin.Range.rangeSize 1 14 1), rawInt 1] }) rfl
    have e13 : Builtin.Range.rangeSize 1 14 1 = 13 := rfl
    rw [e13] at q ⊢
    exact q
  · intro i v m₁ news₁ s₁ own hs1 hin hv hJ hoff _ _ _ _ F₁ N₁
    obtain ⟨hh', tk', e⟩ := hs1
    obtain ⟨e2, ⟨k, t, hk⟩, hz⟩ := hJ
    subst e e2
    obtain ⟨_, ti, ev⟩ := hv
    subst ev
    rw [turn_form hk hz] at F₁
    refine wpAny_mono (turn _ ti k t m₁ hh' tk' (own ++ news₁) (by omega) (by omega) F₁ N₁) (fun f s₂ p => ?_) fun _ _ e => e
    obtain ⟨ef, h', tk2, m', es, F', N', ht', hz'⟩ := p
    subst ef
    exact .next ⟨rfl, h', tk2, m', news₁, es, F', N', hoff, rfl, ht', hz'⟩
  · intro h' tk m' news' F' N' _ hJ
    obtain ⟨e, ⟨k, t, hk⟩, hz⟩ := hJ
    subst e
    rw [turn_form hk hz] at F'
    exact done k t m' h' tk F' N'
end
theorem fm6 (a : Int) : 0 ≤ a.fmod (10 ^ Int.toNat 6) ∧ a.fmod (10 ^ Int.toNat 6) < 1000000 := by
  have e : (10 : Int) ^ Int.toNat 6 = 1000000 := rfl
  rw [e]
  exact ⟨Int.fmod_nonneg_of_pos _ (by decide), Int.fmod_lt_of_pos _ (by decide)⟩
theorem fm4 (a : Int) : 0 ≤ (-a).fmod 4 ∧ (-a).fmod 4 < 4 ∧ (a + (-a).fmod 4).fmod 4 = 0 := by
  rw [Int.fmod_eq_emod_of_nonneg _ (by decide), Int.fmod_eq_emod_of_nonneg _ (by decide)]
  omega
theorem year_b (a : Int) : 533 ≤ 533 + a.fmod (10 ^ Int.toNat 6) ∧ 533 + a.fmod (10 ^ Int.toNat 6) ≤ 10000000 := by
  have := fm6 a; omega
theorem even_b (a : Int) : 533 ≤ 533 + a.fmod (10 ^ Int.toNat 6) + (-(533 + a.fmod (10 ^ Int.toNat 6))).fmod 4 ∧ 533 + a.fmod (10 ^ Int.toNat 6) + (-(533 + a.fmod (10 ^ Int.toNat 6))).fmod 4 ≤ 10000000 ∧ (533 + a.fmod (10 ^ Int.toNat 6) + (-(533 + a.fmod (10 ^ Int.toNat 6))).fmod 4).fmod 4 = 0 := by
  have h1 := fm6 a
  have h2 := fm4 (533 + a.fmod (10 ^ Int.toNat 6))
  refine ⟨by omega, by omega, h2.2.2⟩
theorem month_b (a : Int) : 1 ≤ 1 + a.fmod 13 ∧ 1 + a.fmod 13 ≤ 13 := by
  have h1 := Int.fmod_nonneg_of_pos a (show (0 : Int) < 13 by decide)
  have h2 := Int.fmod_lt_of_pos a (show (0 : Int) < 13 by decide)
  omega
theorem small_b (a : Int) : 1 + a.fmod 532 ≤ 100000000 := by
  have h2 := Int.fmod_lt_of_pos a (show (0 : Int) < 532 by decide)
  omega
theorem even1_b (a : Int) : 533 + a.fmod (10 ^ Int.toNat 6) + (-(533 + a.fmod (10 ^ Int.toNat 6))).fmod 4 + 1 ≤ 100000000 := by
  have := (even_b a).2.1; omega
theorem big_b {a : Int} (h : a ≤ 10000000) : a ≤ 100000000 := by omega
theorem use2 {w : World} {loose : List Str} {mean : ExcName → Option Value} {mg mb : Str → Option Value} {f : Addr} {vs : List Value} {P : Value → Prop} (C : Claim2 w loose mean mg mb f vs P)
    {news : List (Addr × Obj)} {cn : Str} {cs : Scope} {a : Addr} {ccd : Value} {h₀ : Heap} {L : Addr} {m : Str → Option Value} {s : Shared} {Q E : Value → Shared → Prop}
    (B : Below callerA h₀ [] h₀) (F : Fr h₀ L s.heap m) (X : (Mine.hd.heap_39 w.params).In h₀) (N : News h₀ L s.heap news) (T : Top Mine.hd.view_39 loose mean mg mb h₀) (hk : cs.kind = .function) (ret : Ret h₀ L m news s Q P) :
    wpAny (model PySem.Challenge.rw_bb6041_01.row.prog w) (callerA.deeper (envOf cn cs L a ccd)) (call (.ref f) vs) Q E s :=
  C _ _ _ _ _ _ _ _ _ _ _ B F X N T hk ret
theorem turn_end {h₀ h' : Heap} {L : Addr} {m' m₀ : Str → Option Value} {names : List Str} {led : List (Addr × Obj)} {s : Shared} {tk' : Nat} {k : Int} {t : Tok}
    (F : Fr h₀ L h' m') (N : News h₀ L h' led) (ht : m' (Str.ofString "turn") = some (.int k t)) (hz : ∀ z, z ∉ Str.ofString "turn" :: names → m' z = m₀ z) : TurnEnd h₀ L m₀ names led s .next { s with heap := h', toks := tk' } :=
  ⟨rfl, h', tk', m', rfl, F, N, ⟨k, t, ht⟩, hz⟩
theorem dec_t {p : Prop} {i : Decidable p} (h : @bne Bool (@instBEqOfDecidableEq Bool instDecidableEqBool) true (@decide p i) = true) : ¬ p := by
  intro hp
  rw [decide_eq_true hp] at h
  exact absurd h (by decide)
theorem dec_f {p : Prop} {i : Decidable p} (h : @bne Bool (@instBEqOfDecidableEq Bool instDecidableEqBool) false (@decide p i) = true) : p := by
  by_cases hp : p
  · exact hp
  · rw [decide_eq_false hp] at h
    exact absurd h (by decide)
theorem due_0 {f : Bool} {m d : Int} : ¬ Due f 0 m d := by
  intro h
  have := (due_bounds h).1
  omega
theorem due_14 {f : Bool} {y d : Int} : ¬ Due f y 14 d := by
  intro h
  have := (due_bounds h).2.2.1
  omega
theorem due_y {f : Bool} {y m : Int} (h : 533 ≤ y) (h1 : 1 ≤ m) (h2 : m ≤ 13) : Due f y m 1 := by
  refine ⟨by decide, ?_⟩
  unfold lawLen
  cases f
  · simp only [Bool.false_eq_true, if_false, false_and]
    (repeat' split) <;> omega
  · simp only [if_true, true_and]
    (repeat' split) <;> omega
/-- the two words of the law's second loop -/
inductive IsW2 : Value → Bool → Prop
  | n : IsW2 .none false
  | s (t : Tok) : IsW2 (.str (Str.ofString "sarkawag") t) true
theorem IsW2.word {v : Value} {f : Bool} (h : IsW2 v f) : IsWord v f := by
  cases h
  · exact .n
  · exact .s1 _
section
variable {prog : Program} {w : World} {A : Around} {E : Value → Shared → Prop} {s : Shared} {env : Env} {h₀ : Heap} {x : Str} {body : List Stmt} {Q : Flow → Shared → Prop}
/-- a loop over a tuple at the ledger's head -/
theorem iter_tup {l : Addr} {o : Obj} {its : Array Value} {m₀ : Str → Option Value} {news : List (Addr × Obj)} (names : List Str) {k0 : Int} {t0 : Tok}
    (F : Fr h₀ env.locals s.heap m₀) (N : News h₀ env.locals s.heap ((l, o) :: news)) (hT : s.heap.IsTuple l its) (hh : A.handled = none) (hP : ∀ v ∈ its, ∃ f, IsW2 v f) (ht : m₀ (Str.ofString "turn") = some (.int k0 t0))
    (turn : ∀ v f k t u h tk led, IsW2 v f → IsWord v f → Fr h₀ env.locals h (fun z => if z = x then some v else if z = Str.ofString "turn" then some (.int k t) else forget u m₀ names z) → News h₀ env.locals h led →
      wpAny (model prog w) A (execs body env) (TurnEnd h₀ env.locals m₀ names led { s with heap := h, toks := tk }) E { s with heap := h, toks := tk })
    (done : ∀ k t u h tk, Fr h₀ env.locals h (fun z => if z = Str.ofString "turn" then some (.int k t) else forget u m₀ names z) → News h₀ env.locals h ((l, o) :: news) → Q .next { s with heap := h, toks := tk }) :
    wpAny (model prog w) A (pyIter (.ref l)) (fun it s₂ => LoopAtV prog w A h₀ env x body Q E it s₂) E s := by
  have hN := N (l, o) (.head _)
  have hlt : l < s.heap.objs.size := Heap.lt_size hN.1
  have hne : l ≠ s.heap.objs.size := Nat.ne_of_lt hlt
  refine wpAny_pyIter_tuple hT ?_
  have W := Walks.tuple (prog := prog) (w := w) hh s.heap.objs.size l hne its
  refine ⟨_, _, _, its.size, _, _, m₀, (l, o) :: news, fun _ m₁ news₁ => news₁ = (l, o) :: news ∧ (∃ k t, m₁ (Str.ofString "turn") = some (.int k t)) ∧ ∀ z, z ∉ Str.ofString "turn" :: names → m₁ z = m₀ z, rfl, W, ?_, ?_, ?_, ⟨⟨_, Heap.get?_push_size _ rfl, rfl, rfl⟩, hT.at fun o e => Heap.get?_push_of_some _ e⟩, F.push _, (fun p hp => ⟨Heap.get?_push_of_some _ (N p hp).1, (N p hp).2⟩), ⟨rfl, ⟨_, _, ht⟩, fun _ _ => rfl⟩, ?_, ?_⟩
  · intro hm
    rcases List.mem_cons.mp hm with e | hm
    · exact absurd F.ns.lt (e ▸ Nat.lt_irrefl _)
    · exact hN.2.1 (List.mem_singleton.mp hm).symm
  · intro b hb
    rw [List.mem_singleton.mp hb]
    exact next_is_new F
  · intro p hp hI
    exact absurd (Heap.lt_size (N p hp).1) ((List.mem_singleton.mp hI) ▸ Nat.lt_irrefl _)
  · intro i v m₁ news₁ s₁ own hs1 hin hv hJ hoff _ _ _ _ F₁ N₁
    obtain ⟨hh', tk', e⟩ := hs1
    obtain ⟨e2, ⟨k, t, hk⟩, hz⟩ := hJ
    subst e e2
    rw [turn_form hk hz] at F₁
    have hv' : its[i]? = some v := hv
    obtain ⟨f, hf⟩ := hP v (Array.mem_of_getElem? hv')
    refine wpAny_mono (turn v f k t m₁ hh' tk' (own ++ (l, o) :: news) hf hf.word F₁ N₁) (fun f s₂ p => ?_) fun _ _ e => e
    obtain ⟨ef, h', tk2, m', es, F', N', ht', hz'⟩ := p
    subst ef
    exact .next ⟨rfl, h', tk2, m', (l, o) :: news, es, F', N', hoff, rfl, ht', hz'⟩
  · intro h' tk m' news' F' N' _ hJ
    obtain ⟨e, ⟨k, t, hk⟩, hz⟩ := hJ
    subst e
    rw [turn_form hk hz] at F'
    exact done k t m' h' tk F' N'
end
theorem len_ge {f : Bool} {y m : Int} (h : 533 ≤ y) (h1 : 1 ≤ m) (h2 : m ≤ 13) : 5 ≤ lawLen f y m := by
  unfold lawLen
  cases f
  · simp only [Bool.false_eq_true, if_false, false_and]
    (repeat' split) <;> omega
  · simp only [if_true, true_and]
    (repeat' split) <;> omega
theorem len_t {y : Int} (h : 533 ≤ y) (h4 : Int.fmod y 4 = 0) : lawLen true y 13 = 6 := by
  unfold lawLen
  rw [if_neg (by simp only [if_true]; omega), if_neg (by decide), if_pos ⟨rfl, h4⟩]
theorem len_f {y : Int} (h : 533 ≤ y) : lawLen false y 13 = 5 := by
  unfold lawLen
  rw [if_neg (by simp only [Bool.false_eq_true, if_false]; omega), if_neg (by decide), if_neg (fun h => Bool.noConfusion h.1)]
end
section
theorem walk_MMlen2 : True := by
  w_top off
  trivial
local macro_rules | `(tactic| walk_at "spare line") => `(tactic| skip)
local macro_rules | `(tactic| walk_at "eval Call") => `(tactic| ((with_reducible show wpAny _ _ (eval (Expr.Call (Expr.Name _ _) _ [] _) _) _ _ _); refine Call_ ?_))
local macro_rules | `(tactic| walk_at "noteFrame ref") => `(tactic| (k_here; (with_reducible rename Heap.NewExc _ _ _ _ => nxX); k_dflt (refine' caught_from ?cK ?cF ?cN nxX ?cX ?cT ?c1 ?c2 ?_; (case cK => assumption); (case cF => assumption); (case cN => assumption); (case cX => assumption); (case cT => assumption); (case c1 => k_is); (case c2 => k_is)); clear nxX; intro h' tk' G' m' e' R' F' U'; (try dsimp only)))
local macro_rules | `(tactic| walk_at "call ref") => `(tactic| (k_here; k_dflt (refine' use (c_leap _ _ _ _ _ _ _ ) ?k1 ?k2 ?k3 ?k4 ?k5 ?k6 ?kd ?ku ?_; (case k1 => k_asm); (case k2 => k_asm); (case k3 => k_asm); (case k4 => k_asm); (case k5 => k_asm); (case k6 => first | exact rfl | assumption); (case kd => ktr_room); (case ku => ktr_units)); (intro v9 h9 tk9 hP9 F9 N9; subst hP9); (try dsimp only); (try k_fold)))
theorem c_mlen2 (w : World) (loose : List Str) (mean : ExcName → Option Value) (mg mb : Str → Option Value) (y m : Int) (t1 t2 : Tok) (v : Value) (f : Bool) (hw : IsW2 v f) (hy : 533 ≤ y) (h1 : 1 ≤ m) (h2 : m ≤ 13) :
    Claim w loose mean mg mb 2 137 [.int y t1, .int m t2, v] (fun r => ∃ t, r = .int (lawLen f y m) t) := by
  unfold Claim
  k_fill
  dsimp only [Ret]
  cases hw
  all_goals (
    intros
    rename_i hret
    refine wpAny_call ?_
    k_dflt (refine' code_def ?k1 ?k2 ?k3 ?k4 ?k5 ?kA ?kF ?kK ?k6 ?k7 ?k8 ?k9 ?kB ?_ ?c2 ?c3 ?c4 ?c5; (case kA => exact rfl); (case kF => exact rfl); (case kK => first | exact rfl | assumption); (case k1 => k_asm); (case k2 => k_asm); (case k3 => k_asm); (case k4 => k_asm); (case k5 => k_asm); (case k6 => k_is); (case k7 => k_is); (case k8 => ktr_room); (case k9 => first | exact binds_K (by k_in) rfl (by k_is) rfl rfl rfl | exact BindsTo.of_eq rfl); (case c5 => decide); (case kB => exact locs rfl); (case c2 => exact rfl); (case c3 => exact rfl); (case c4 => exact rfl); k_whole; intro g' L' h' FG' F' N' B' X' T'; (try dsimp only); (try k_lift B'); (try k_fold))
    k_steps)
  all_goals (refine' hret _ _ _ ?eP ?eF ?eN; (case eF => with_reducible assumption); (case eN => first | with_reducible assumption | (refine' cb_drop ?cbN ?cbS; (case cbN => with_reducible assumption); (case cbS => kcj_all))); (case eP => refine ⟨_, congrArg (Value.int · _) ?_⟩; ((rcases leap_cases y with ⟨q1, q2, q3⟩ | ⟨q1, q2⟩) <;> first | (exfalso; exact Bool.noConfusion (Eq.trans (Eq.symm q1) (by with_reducible assumption : leapS y = true))) | (exfalso; exact Bool.noConfusion (Eq.trans (Eq.symm (by with_reducible assumption : leapS y = false)) q1)) | ((simp only [lawLen, Bool.false_eq_true, if_false, if_true, false_and, true_and]); (repeat' split) <;> omega))))
end
section
theorem walk_MLaw : True := by
  w_top off
  trivial
local macro_rules | `(tactic| walk_at "eval Call") => `(tactic| ((with_reducible show wpAny _ _ (eval (Expr.Call (Expr.Name _ _) _ [] _) _) _ _ _); refine Call_ ?_))
local macro_rules | `(tactic| walk_at "noteFrame ref") => `(tactic| (k_here; (with_reducible rename Heap.NewExc _ _ _ _ => nxX); k_dflt (refine' caught_from ?cK ?cF ?cN nxX ?cX ?cT ?c1 ?c2 ?_; (case cK => assumption); (case cF => assumption); (case cN => assumption); (case cX => assumption); (case cT => assumption); (case c1 => k_is); (case c2 => k_is)); clear nxX; intro h' tk' G' m' e' R' F' U'; (try dsimp only)))
local macro_rules | `(tactic| walk_at "inplaceOp Add ref") => `(tactic| (k_here; (with_reducible show wpAny _ _ (inplaceOp Operator.Add (Value.ref _) (Value.ref _)) _ _ _); k_dflt (refine' iadd_F ?F ?N ?U ?b ?z ?_; (case F => k_asm); (case N => k_asm); (case U => k_updF); (case b => k_mem); (case z => exact Nat.le_of_ble_eq_true rfl)); intro h9 n9 F9 N9; (try dsimp only at N9)))
local macro_rules | `(tactic| walk_at "inplaceOp Add ref ref") => `(tactic| (k_here; (with_reducible show wpAny _ _ (inplaceOp Operator.Add (Value.ref _) (Value.ref _)) _ _ _); k_dflt (refine' iadd_F ?F ?N ?U ?b ?z ?_; (case F => k_asm); (case N => k_asm); (case U => k_updF); (case b => k_mem); (case z => exact Nat.le_of_ble_eq_true rfl)); intro h9 n9 F9 N9; (try dsimp only at N9)))
local macro_rules | `(tactic| walk_at "exec For Name Name cons nil") => `(tactic| (k_here; k_dflt (refine For_mine (F := by k_asm) (by rfl) (by rfl) ?_)))
local macro_rules | `(tactic| walk_at "pyIter ref") => `(tactic| (k_here; (with_reducible show wpAny _ _ (pyIter (Value.ref _)) (fun it s₂ => LoopAtV _ _ _ _ _ _ _ _ _ it s₂) _ _); refine unstop ?_))
local macro_rules | `(tactic| walk_at "exec For Name Tuple cons nil") => `(tactic| (k_here; k_dflt (refine For_mine (F := by k_asm) (by rfl) (by rfl) ?_)))
local macro_rules | `(tactic| walk_at "exec For Name Call cons nil") => `(tactic| (k_here; k_dflt (refine For_mine (F := by k_asm) (by rfl) (by rfl) ?_)))
local macro_rules | `(tactic| walk_at "call ref") => `(tactic| (k_here; k_dflt (refine' use2 (c_told _ _ _ _ _ _ _ _ _ _ _ _ _ ?kw) ?k1 ?k2 ?k3 ?k4 ?k5 ?k6 ?_; (case k2 => k_asm); (case k1 => k_asm); (case k3 => k_asm); (case k4 => k_asm); (case k5 => k_asm); (case k6 => first | exact rfl | assumption); (case kw => first | assumption | exact IsWord.n | exact IsWord.s1 _)); (intro v9 h9 tk9 hP9 F9 N9; (rcases hP9 with ⟨hD9, e9⟩ | ⟨hD9, t9, e9⟩) <;> subst e9 <;> (try (exfalso; omega)) <;> (try dsimp only))))
local macro_rules | `(tactic| walk_at "call ref") => `(tactic| (k_here; k_dflt (refine' use2 (c_door _ _ _ _ _ _ _ _ _ _ _ _ _ _ _ ?kw ?ky) ?k1 ?k2 ?k3 ?k4 ?k5 ?k6 ?_; (case k2 => k_asm); (case k1 => k_asm); (case k3 => k_asm); (case k4 => k_asm); (case k5 => k_asm); (case k6 => first | exact rfl | assumption); (case kw => assumption); (case ky => assumption)); (intro v9 h9 tk9 hP9 F9 N9; (rcases hP9 with ⟨hD9, e9⟩ | ⟨hD9, e9⟩) <;> subst e9 <;> (try (exfalso; omega)) <;> (try dsimp only))))
local macro_rules | `(tactic| walk_at "call ref") => `(tactic| (k_here; k_dflt (refine' use2 (c_leaf _ _ _ _ _ _ _ _ _ _ _ ?kw ?ky) ?k1 ?k2 ?k3 ?k4 ?k5 ?k6 ?_; (case k2 => k_asm); (case k1 => k_asm); (case k3 => k_asm); (case k4 => k_asm); (case k5 => k_asm); (case k6 => first | exact rfl | assumption); (case kw => assumption); (case ky => first | assumption | omega)); (intro v9 h9 tk9 hP9 F9 N9; (rcases hP9 with ⟨hD9, e9⟩ | ⟨hD9, e9⟩) <;> subst e9 <;> (try dsimp only))))
local macro_rules | `(tactic| walk_at "call ref") => `(tactic| (k_here; k_dflt (refine' use (c_llen _ _ _ _ _ _ _ _ _ _ _ ?kw) ?k1 ?k2 ?k3 ?k4 ?k5 ?k6 ?kd ?ku ?_; (case k2 => k_asm); (case k1 => k_asm); (case k3 => k_asm); (case k4 => k_asm); (case k5 => k_asm); (case k6 => first | exact rfl | assumption); (case kd => ktr_room); (case ku => ktr_units); (case kw => first | assumption | exact IsWord.n | exact IsWord.s1 _)); (intro v9 h9 tk9 hP9 F9 N9; obtain ⟨t9, e9⟩ := hP9; subst e9; (try dsimp only))))
local macro_rules | `(tactic| walk_at "call ref") => `(tactic| (k_here; k_dflt (refine' use (c_mlen2 _ _ _ _ _ _ _ _ _ _ _ ?kw ?ky ?ka ?kb) ?k1 ?k2 ?k3 ?k4 ?k5 ?k6 ?kd ?ku ?_; (case k2 => k_asm); (case k1 => k_asm); (case k3 => k_asm); (case k4 => k_asm); (case k5 => k_asm); (case k6 => first | exact rfl | assumption); (case kd => ktr_room); (case ku => ktr_units); (case kw => assumption); (case ky => assumption); (case ka => assumption); (case kb => assumption)); (intro v9 h9 tk9 hP9 F9 N9; obtain ⟨t9, e9⟩ := hP9; subst e9; (try dsimp only))))
theorem holds : PySem.Challenge.rw_bb6041_01.Holds := Mine.hd (by
  k_go0
  all_goals try k_fold
  k_steps
  refine go_on ?_
  refine' outer [Str.ofString "word", Str.ofString "case", Str.ofString "y", Str.ofString "m", Str.ofString "d", Str.ofString "due", Str.ofString "told"] ?oF ?oN ?oh ?oy ?om ?oe ?oc ?ot ?omw ?omc ?oW ?oC ?oY ?oM ?oE ?oT ?oD
  case oF => k_asm
  case oN => k_asm
  case oh => rfl
  case oy => rfl
  case om => rfl
  case oe => rfl
  case oc => rfl
  case ot => rfl
  case omw => k_mem
  case omc => k_mem
  case oW =>
    intro v hv
    simp only [List.mem_toArray, List.mem_cons, List.not_mem_nil, or_false] at hv
    rcases hv with hv | hv | hv | hv | hv | hv <;> subst hv
    · exact ⟨_, .n⟩
    · exact ⟨_, .e _⟩
    · exact ⟨_, .o _⟩
    · exact ⟨_, .s1 _⟩
    · exact ⟨_, .s2 _⟩
    · exact ⟨_, .s3 _⟩
  case oC =>
    intro v hv
    rcases Array.mem_append.mp hv with hv | hv <;> simp only [List.mem_toArray, List.mem_cons, List.not_mem_nil, or_false] at hv
    · rcases hv with hv | hv | hv | hv | hv | hv <;> (refine ⟨_, _, _, _, _, _, _, hv, by k_mem, ?_⟩; first | exact big_b (year_b _).2 | exact big_b (even_b _).2.1 | exact even1_b _ | exact small_b _ | decide)
    · rcases hv with hv | hv | hv | hv | hv | hv | hv | hv <;> (refine ⟨_, _, _, _, _, _, _, hv, by k_mem, ?_⟩; first | exact big_b (year_b _).2 | exact big_b (even_b _).2.1 | exact even1_b _ | exact small_b _ | decide)
  case oY => exact year_b _
  case oM => exact month_b _
  case oE => exact even_b _
  case oT =>
    intro itc cc lc yr mo ev ty tm te v f k t u u0 h tk led y1 y2 m1 m2 e1 e2 e3 hw hmc hC F' N'
    simp only [forget, Mf] at F'
    k_steps
    refine go_on ?_
    refine' inner [Str.ofString "case", Str.ofString "y", Str.ofString "m", Str.ofString "d", Str.ofString "due", Str.ofString "told"] ?iF ?iN ?ih ?it ?imc ?iC ?iT ?iD
    case iF => k_asm
    case iN => k_asm
    case ih => rfl
    case it => rfl
    case imc => exact hmc
    case iC => exact hC
    case iT =>
      intro a y m d sy sm sd k2 t2 u2 h2 tk2 led2 hY F2 N2
      simp only [forget] at F2
      k_steps
      · rename_i q9
        exfalso
        exact dec_t q9 (by with_reducible assumption)
      · refine' turn_end ?qF ?qN ?qt ?qz
        case qF => (with_reducible rename Fr _ _ _ _ => q9); exact q9
        case qN => (with_reducible rename News _ _ _ _ => q9); exact news_drop q9
        case qt => exact if_pos rfl
        case qz => intro z hz; simp only [List.mem_cons, List.not_mem_nil, or_false, not_or] at hz; obtain ⟨n1, n2, n3, n4, n5, n6, n7⟩ := hz; (repeat (refine' Eq.trans (if_neg ?h) ?_; (case h => with_reducible assumption))); exact rfl
      · with_reducible rename ¬ (_ ≤ lawLen _ _ _) => q9
        with_reducible rename Due _ _ _ _ => q8
        exact absurd q8.2 q9
      · rename_i q8 q9
        exfalso
        exact q8 ⟨by with_reducible assumption, dec_f q9⟩
      · refine' turn_end ?qF ?qN ?qt ?qz
        case qF => (with_reducible rename Fr _ _ _ _ => q9); exact q9
        case qN => (with_reducible rename News _ _ _ _ => q9); exact news_drop q9
        case qt => exact if_pos rfl
        case qz => intro z hz; simp only [List.mem_cons, List.not_mem_nil, or_false, not_or] at hz; obtain ⟨n1, n2, n3, n4, n5, n6, n7⟩ := hz; (repeat (refine' Eq.trans (if_neg ?h) ?_; (case h => with_reducible assumption))); exact rfl
      · rename_i q9
        exfalso
        exact absurd (dec_f q9) (by with_reducible assumption)
      · refine' turn_end ?qF ?qN ?qt ?qz
        case qF => (with_reducible rename Fr _ _ _ _ => q9); exact q9
        case qN => (with_reducible rename News _ _ _ _ => q9); exact news_drop q9
        case qt => exact if_pos rfl
        case qz => intro z hz; simp only [List.mem_cons, List.not_mem_nil, or_false, not_or] at hz; obtain ⟨n1, n2, n3, n4, n5, n6, n7⟩ := hz; (repeat (refine' Eq.trans (if_neg ?h) ?_; (case h => with_reducible assumption))); exact rfl
    case iD =>
      intro k2 t2 u2 h2 tk2 F2 N2
      simp only [forget] at F2
      k_steps
      · exfalso
        with_reducible rename Due _ _ _ _ => q9
        exact due_0 q9
      · exfalso
        with_reducible rename Due _ _ _ _ => q9
        exact due_14 q9
      · refine' turn_end ?qF ?qN ?qt ?qz
        case qF => (with_reducible rename Fr _ _ _ _ => q9); exact q9
        case qN => (with_reducible rename News _ _ _ _ => q9); exact q9
        case qt => exact if_pos rfl
        case qz => intro z hz; simp only [List.mem_cons, List.not_mem_nil, or_false, not_or] at hz; obtain ⟨n1, n2, n3, n4, n5, n6, n7, n8⟩ := hz; (repeat (refine' Eq.trans (if_neg ?h) ?_; (case h => with_reducible assumption))); exact rfl
      · exfalso
        rename_i q9
        exact q9 (due_y y1 m1 m2)
  case oD =>
    intro lc yr mo ev ty tm te k t u u0 h tk led y1 y2 m1 m2 e1 e2 e3 F' N'
    simp only [forget, Mf] at F'
    k_steps
    refine go_on ?_
    refine' iter_tup [Str.ofString "word", Str.ofString "m", Str.ofString "length"] ?pF ?pN ?pT ?ph ?pP ?pt ?pX ?pD
    case pF => k_asm
    case pN => k_asm
    case pT => exact News.isTup (by k_asm) (by news_mem)
    case ph => rfl
    case pP =>
      intro v hv
      simp only [List.mem_toArray, List.mem_cons, List.not_mem_nil, or_false] at hv
      rcases hv with hv | hv <;> subst hv
      · exact ⟨_, .n⟩
      · exact ⟨_, .s _⟩
    case pt => exact if_pos rfl
    case pX =>
      intro v f k2 t2 u2 h2 tk2 led2 hw2 hw F2 N2
      simp only [forget] at F2
      k_steps
      refine go_on ?_
      refine' months [Str.ofString "m", Str.ofString "length"] ?rF ?rN ?rr ?rh ?rt ?rT ?rD
      case rF => k_asm
      case rN => k_asm
      case rr => assumption
      case rh => rfl
      case rt => rfl
      case rT =>
        intro i ti k3 t3 u3 h3 tk3 led3 i1 i2 F3 N3
        simp only [forget] at F3
        have i5 := len_ge (f := f) y1 i1 i2
        k_steps
        · rename_i q9
          exact absurd rfl q9
        · refine' turn_end ?qF ?qN ?qt ?qz
          case qF => (with_reducible rename Fr _ _ _ _ => q9); exact q9
          case qN => (with_reducible rename News _ _ _ _ => q9); exact q9
          case qt => rfl
          case qz => intro z hz; simp only [List.mem_cons, List.not_mem_nil, or_false, not_or] at hz; obtain ⟨n1, n2, n3⟩ := hz; (repeat (refine' Eq.trans (if_neg ?h) ?_; (case h => with_reducible assumption))); (repeat (refine' Eq.trans ?_ (Eq.symm (if_neg ?h)); (case h => with_reducible assumption))); exact rfl
      case rD =>
        intro k3 t3 u3 h3 tk3 F3 N3
        simp only [forget] at F3
        k_steps
        · refine' turn_end ?qF ?qN ?qt ?qz
          case qF => (with_reducible rename Fr _ _ _ _ => q9); exact q9
          case qN => (with_reducible rename News _ _ _ _ => q9); exact q9
          case qt => exact if_pos rfl
          case qz => intro z hz; simp only [List.mem_cons, List.not_mem_nil, or_false, not_or] at hz; obtain ⟨n1, n2, n3, n4⟩ := hz; (repeat (refine' Eq.trans (if_neg ?h) ?_; (case h => with_reducible assumption))); (repeat (refine' Eq.trans ?_ (Eq.symm (if_neg ?h)); (case h => with_reducible assumption))); exact rfl
    case pD =>
      intro k2 t2 u2 h2 tk2 F2 N2
      simp only [forget] at F2
      have l6 := len_t e1 e3
      have l5 := len_f e1
      k_steps)
end
end Mine
theorem PySem.Challenge.cw_bb6041_01_holds : PySem.Challenge.rw_bb6041_01.Holds :=
  Mine.holds
