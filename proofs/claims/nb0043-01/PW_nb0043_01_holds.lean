import PyProof.Rows.All
import Wide.All
import OpenK.AllK
import Wide.FinOn
import PySem.Builtin.Math.Norm
import PyProof.SumWalk
import PySem.Challenge.RW_nb0043_01
set_option Elab.async false
set_option maxRecDepth 100000
namespace Mine
open PySem PySem.W PyProof.Rows
set_option maxRecDepth 100000 in
set_option maxHeartbeats 8000000 in
open_top hd for PySem.Challenge.rw_nb0043_01
end Mine
namespace Mine
open PySem PySem.Float64
/-- a power of two times at most 2^53 is one of the doubles' sizes -/
theorem rep (k : Nat) : ∀ q : Nat, q ≤ 2 ^ 53 → ∃ t, V t = q * 2 ^ k := by
  induction k with
  | zero => intro q hq; exact ⟨0 * 2 ^ 52 + q, V_at hq (.inr rfl)⟩
  | succ k ih =>
    intro q hq
    by_cases h : 2 ^ 52 ≤ q
    · exact ⟨(k + 1) * 2 ^ 52 + q, V_at hq (.inl h)⟩
    · obtain ⟨t, ht⟩ := ih (2 * q) (by omega)
      exact ⟨t, by rw [ht, Nat.pow_succ]; ac_rfl⟩

theorem right_exact {r : UInt64} {neg : Bool} {W D q k : Nat} (h : Right r neg W D) (hD : 0 < D) (hW : W = D * (q * 2 ^ k)) (hq : q ≤ 2 ^ 53) (hk : k ≤ 2000) :
    isFinite r = true ∧ val r = sgn neg (q * 2 ^ k) := by
  obtain ⟨t, rfl, ht, hov, hr⟩ := h
  have hlt : t < infMag := by
    rcases Nat.lt_or_ge t infMag with h1 | h1
    · exact h1
    · exfalso
      have := hov.mp (by omega)
      rw [hW] at this
      rw [show 2 * (D * (q * 2 ^ k)) = D * (2 * (q * 2 ^ k)) from Nat.mul_left_comm _ _ _] at this
      have h3 := Nat.le_of_mul_le_mul_left this hD
      have h4 : 2 ^ k ≤ 2 ^ 2000 := Nat.pow_le_pow_right (by decide) hk
      have h5 : q * 2 ^ k ≤ 2 ^ 53 * 2 ^ 2000 := Nat.mul_le_mul hq h4
      have h6 : 2 ^ 2045 = 2 ^ 45 * 2 ^ 2000 := Nat.pow_add 2 45 2000
      have h7 : 0 < 2 ^ 2000 := Nat.two_pow_pos _
      rw [h6] at h3
      generalize 2 ^ 2000 = P at *
      generalize q * 2 ^ k = Z at *
      omega
  obtain ⟨t', ht'⟩ := rep k q hq
  have := (hr hlt t').1
  rw [hW, ht'] at this
  have hz : dist (D * (q * 2 ^ k)) (D * (q * 2 ^ k)) = 0 := by unfold dist; omega
  rw [hz] at this
  have he : D * (q * 2 ^ k) = D * V t := by unfold dist at this; omega
  have he' := Nat.eq_of_mul_eq_mul_left hD he
  obtain ⟨m, e, hd, _⟩ := decode_pack neg hlt
  refine ⟨?_, ?_⟩
  · unfold isFinite; rw [hd]
  · rw [val_pack neg hlt, ← he']

theorem fin_decode {x : UInt64} (h : isFinite x = true) : ∃ a m e, decode x = .fin a m e := by
  unfold isFinite at h
  split at h
  · rename_i a m e h1; exact ⟨_, _, _, h1⟩
  · cases h

/-- the unit of val -/
theorem U_ex : ∃ u : Int, u = 2 ^ 1074 := ⟨_, rfl⟩
noncomputable def U : Int := U_ex.choose
theorem U_eq : U = 2 ^ 1074 := U_ex.choose_spec
theorem U_pos : 0 < U := by rw [U_eq]; exact Int.pow_pos (by decide)
theorem two_pos (e : Nat) : (0 : Int) < 2 ^ e := Int.pow_pos (by decide)

/-- x is the finite double m / 2^e -/
structure Is (x : UInt64) (m : Int) (e : Nat) : Prop where
  fin : isFinite x = true
  eq : val x * 2 ^ e = m * U

theorem U_split {e : Nat} (he : e ≤ 1074) : U = 2 ^ (1074 - e) * 2 ^ e := by
  rw [U_eq, ← Int.pow_add]
  congr 1
  omega
theorem Is.val_is {x : UInt64} {m : Int} {e : Nat} (h : Is x m e) (he : e ≤ 1074) : val x = m * 2 ^ (1074 - e) := by
  have h1 := h.eq
  rw [U_split he, ← Int.mul_assoc] at h1
  exact Int.eq_of_mul_eq_mul_right (by have := two_pos e; omega) h1
theorem Is.of_val {x : UInt64} {m : Int} {e : Nat} (hf : isFinite x = true) (he : e ≤ 1074) (h : val x = m * 2 ^ (1074 - e)) : Is x m e :=
  ⟨hf, by rw [h, U_split he, Int.mul_assoc]⟩

theorem Is.up {x : UInt64} {m : Int} {e : Nat} (h : Is x m e) (j : Nat) : Is x (m * 2 ^ j) (e + j) :=
  ⟨h.fin, by rw [Int.pow_add, ← Int.mul_assoc, h.eq]; exact Int.mul_right_comm _ _ _⟩
theorem Is.down {x : UInt64} {m : Int} {e j : Nat} (h : Is x (m * 2 ^ j) (e + j)) : Is x m e := by
  refine ⟨h.fin, ?_⟩
  have := h.eq
  rw [Int.pow_add, ← Int.mul_assoc] at this
  have h2 : val x * 2 ^ e * 2 ^ j = m * U * 2 ^ j := by rw [this]; exact Int.mul_right_comm _ _ _
  exact Int.eq_of_mul_eq_mul_right (by have := two_pos j; omega) h2
theorem Is.inj {x : UInt64} {m n : Int} {e : Nat} (h : Is x m e) (h' : Is x n e) : m = n := by
  have := h.eq.symm.trans h'.eq
  exact Int.eq_of_mul_eq_mul_right (by have := U_pos; omega) this

theorem sgn_of (i : Int) : sgn (decide (i < 0)) i.natAbs = i := by
  unfold sgn
  by_cases h : i < 0
  · simp [h]; omega
  · simp [h]; omega
theorem natAbs_pow2 (m : Int) (k : Nat) : (m * 2 ^ k).natAbs = m.natAbs * 2 ^ k := by
  rw [Int.natAbs_mul, Int.natAbs_pow]; rfl
theorem sgn_pow2 (b : Bool) (q k : Nat) : sgn b (q * 2 ^ k) = sgn b q * 2 ^ k := by
  rw [sgn_mul]; congr 1

theorem neg_pow2 (m : Int) (k : Nat) : decide (m * 2 ^ k < 0) = decide (m < 0) := by
  have := two_pos k
  by_cases h : m < 0
  · have := Int.mul_neg_of_neg_of_pos h this; simp [h, this]
  · have := Int.mul_nonneg (show 0 ≤ m by omega) (Int.le_of_lt this); simp [h]; omega

theorem is_ofInt {i : Int} (h : i.natAbs ≤ 2 ^ 53) : Is (ofInt i) i 0 := by
  have := right_exact (q := i.natAbs) (k := 1074) (ofInt_right i) (by decide) (by rw [Nat.one_mul]) h (by omega)
  refine Is.of_val this.1 (by omega) ?_
  rw [this.2, sgn_pow2, sgn_of]

theorem is_zero (b : Bool) (e : Nat) : Is (zero b) 0 e := by
  obtain ⟨m, f, hd, hv⟩ := decode_pack b (t := 0) (by decide)
  refine ⟨by unfold zero isFinite; rw [hd], ?_⟩
  have := val_pack b (t := 0) (by decide)
  rw [V_zero] at this
  have e2 : sgn b 0 = 0 := by cases b <;> rfl
  unfold zero
  rw [this, e2]; simp

theorem Is.add {x y : UInt64} {m n : Int} {e : Nat} (hx : Is x m e) (hy : Is y n e) (he : e ≤ 1074) (h : (m + n).natAbs ≤ 2 ^ 53) : Is (Float64.add x y) (m + n) e := by
  obtain ⟨a, k, f, dx⟩ := fin_decode hx.fin
  obtain ⟨b, l, g, dy⟩ := fin_decode hy.fin
  have hs : val x + val y = (m + n) * 2 ^ (1074 - e) := by rw [hx.val_is he, hy.val_is he, Int.add_mul]
  have R := add_right dx dy
  by_cases hz : val x + val y = 0
  · have hmn : m + n = 0 := by
      rw [hs] at hz
      rcases Int.mul_eq_zero.mp hz with h1 | h1
      · exact h1
      · have := two_pos (1074 - e); omega
    rw [R.1 hz, hmn]
    exact is_zero _ _
  · have R2 := R.2 hz
    rw [hs, natAbs_pow2, neg_pow2] at R2
    have := right_exact (q := (m + n).natAbs) (k := 1074 - e) R2 (by decide) (by rw [Nat.one_mul]) h (by omega)
    refine Is.of_val this.1 he ?_
    rw [this.2, sgn_pow2, sgn_of]
theorem Is.neg {x : UInt64} {m : Int} {e : Nat} (hx : Is x m e) : Is (Float64.neg x) (-m) e := by
  obtain ⟨a, k, f, dx⟩ := fin_decode hx.fin
  refine ⟨by unfold isFinite; rw [neg_decode dx], ?_⟩
  rw [neg_val dx, Int.neg_mul, hx.eq, Int.neg_mul]
theorem Is.sub {x y : UInt64} {m n : Int} {e : Nat} (hx : Is x m e) (hy : Is y n e) (he : e ≤ 1074) (h : (m - n).natAbs ≤ 2 ^ 53) : Is (Float64.sub x y) (m - n) e := by
  unfold Float64.sub
  have := Is.add hx hy.neg he (by rw [← Int.sub_eq_add_neg]; exact h)
  rw [← Int.sub_eq_add_neg] at this
  exact this

theorem sgn_xor (a b : Bool) (k l : Nat) : sgn (a != b) (k * l) = sgn a k * sgn b l := by
  unfold sgn
  cases a <;> cases b <;> simp [Int.neg_mul, Int.mul_neg]

theorem val_self {x : UInt64} {a : Bool} {k : Nat} {f : Int} (d : decode x = .fin a k f) : val x = sgn a (val x).natAbs := by
  rw [val_natAbs d, ← val_eq d]

theorem natAbs_U : U.natAbs = 2 ^ 1074 := by rw [U_eq, Int.natAbs_pow]; rfl
theorem U_nat : U = ((2 ^ 1074 : Nat) : Int) := by rw [U_eq, Int.natCast_pow]; congr 1

theorem Is.mul {x y : UInt64} {m n : Int} {e f : Nat} (hx : Is x m e) (hy : Is y n f) (he : e + f ≤ 1074) (h : (m * n).natAbs ≤ 2 ^ 53) : Is (Float64.mul x y) (m * n) (e + f) := by
  obtain ⟨a, k, i, dx⟩ := fin_decode hx.fin
  obtain ⟨b, l, j, dy⟩ := fin_decode hy.fin
  have R := mul_right dx dy
  have hv : val x * val y = (m * n * 2 ^ (1074 - (e + f))) * U := by
    rw [hx.val_is (by omega), hy.val_is (by omega), U_eq]
    have e1 : (2 : Int) ^ (1074 - e) * 2 ^ (1074 - f) = 2 ^ (1074 - (e + f)) * 2 ^ 1074 := by
      rw [← Int.pow_add, ← Int.pow_add]; congr 1; omega
    calc m * 2 ^ (1074 - e) * (n * 2 ^ (1074 - f)) = m * n * (2 ^ (1074 - e) * 2 ^ (1074 - f)) := by
          generalize (2 : Int) ^ (1074 - e) = P; generalize (2 : Int) ^ (1074 - f) = R; ac_rfl
      _ = _ := by rw [e1, Int.mul_assoc (m * n)]
  have hn : (val x).natAbs * (val y).natAbs = 2 ^ 1074 * ((m * n).natAbs * 2 ^ (1074 - (e + f))) := by
    rw [← Int.natAbs_mul, hv, Int.natAbs_mul, natAbs_U, natAbs_pow2, Nat.mul_comm]
  have := right_exact (q := (m * n).natAbs) (k := 1074 - (e + f)) R (Nat.two_pow_pos _) hn h (by omega)
  refine Is.of_val this.1 he ?_
  rw [this.2]
  have h3 : sgn (a != b) ((m * n).natAbs * 2 ^ (1074 - (e + f))) * U = (m * n * 2 ^ (1074 - (e + f))) * U := by
    rw [← hv, U_nat, ← sgn_mul, Nat.mul_comm, ← hn, sgn_xor, ← val_self dx, ← val_self dy]
  exact Int.eq_of_mul_eq_mul_right (by have := U_pos; omega) h3

theorem Is.ne_zero {y : UInt64} {n : Int} {f : Nat} (hy : Is y n f) (hn : n ≠ 0) : val y ≠ 0 := by
  intro h0
  have := hy.eq
  rw [h0, Int.zero_mul] at this
  rcases Int.mul_eq_zero.mp this.symm with h1 | h1
  · exact hn h1
  · have := U_pos; omega

theorem Is.div {x y : UInt64} {m n r : Int} {e f g : Nat} (hx : Is x m e) (hy : Is y n f) (hn : n ≠ 0) (hr : m * 2 ^ f * 2 ^ g = r * n * 2 ^ e) (hg : g ≤ 1074) (h : r.natAbs ≤ 2 ^ 53) : Is (Float64.div x y) r g := by
  obtain ⟨a, k, i, dx⟩ := fin_decode hx.fin
  obtain ⟨b, l, j, dy⟩ := fin_decode hy.fin
  have hy0 := hy.ne_zero hn
  have hl : l ≠ 0 := by
    intro h0
    apply hy0
    rw [val_eq dy, h0, Nat.zero_mul]; cases b <;> rfl
  have R := div_right dx dy hl
  have hv : val x * U = val y * (r * 2 ^ (1074 - g)) := by
    have p1 := two_pos e
    have p2 := two_pos f
    have p3 := two_pos g
    have hu := U_split hg
    have h1 : val x * U * (2 ^ e * 2 ^ f * 2 ^ g) = val y * (r * 2 ^ (1074 - g)) * (2 ^ e * 2 ^ f * 2 ^ g) := by
      have hx' := hx.eq
      have hy' := hy.eq
      generalize (2 : Int) ^ e = P at *
      generalize (2 : Int) ^ f = R at *
      generalize (2 : Int) ^ g = S at *
      generalize (2 : Int) ^ (1074 - g) = T at *
      calc val x * U * (P * R * S) = (val x * P) * U * R * S := by ac_rfl
        _ = m * U * U * R * S := by rw [hx']
        _ = (m * R * S) * U * U := by ac_rfl
        _ = (r * n * P) * U * U := by rw [hr]
        _ = r * P * (n * U) * U := by ac_rfl
        _ = r * P * (val y * R) * (T * S) := by rw [← hy', ← hu]
        _ = val y * (r * T) * (P * R * S) := by ac_rfl
    refine Int.eq_of_mul_eq_mul_right ?_ h1
    have := Int.mul_pos (Int.mul_pos p1 p2) p3
    omega
  have hnn : (val x).natAbs * 2 ^ 1074 = (val y).natAbs * (r.natAbs * 2 ^ (1074 - g)) := by
    rw [← natAbs_U, ← Int.natAbs_mul, hv, Int.natAbs_mul, natAbs_pow2]
  have := right_exact (q := r.natAbs) (k := 1074 - g) R (by omega) hnn h (by omega)
  refine Is.of_val this.1 hg ?_
  rw [this.2]
  have h3 : sgn (a != b) (r.natAbs * 2 ^ (1074 - g)) * val y = r * 2 ^ (1074 - g) * val y := by
    rw [Int.mul_comm (r * _), ← hv]
    have h4 : sgn (a != b) (r.natAbs * 2 ^ (1074 - g)) * sgn b (val y).natAbs = sgn ((a != b) != b) (r.natAbs * 2 ^ (1074 - g) * (val y).natAbs) := (sgn_xor _ _ _ _).symm
    rw [← val_self dy] at h4
    rw [h4, Nat.mul_comm _ (val y).natAbs, ← hnn, show ((a != b) != b) = a from by cases a <;> cases b <;> rfl, sgn_mul, ← val_self dx, U_nat]
  exact Int.eq_of_mul_eq_mul_right hy0 h3

theorem ofBin_right {neg : Bool} {M : Nat} {g : Int} (h : -2148 ≤ g) : Right (ofBin neg M g) neg (M * 2 ^ (g + 2148).toNat) (2 ^ 1074) := by
  unfold ofBin
  refine ofFrac_right (shift_pos _ _ _ (by decide)) ?_ (Nat.two_pow_pos _)
  have := shift_one M g 2148 (by omega)
  rw [Nat.mul_assoc, ← Nat.pow_add]
  exact this

theorem fma_right {x y z : UInt64} {a b c : Bool} {m k n : Nat} {e f g : Int} (hx : decode x = .fin a m e) (hy : decode y = .fin b k f) (hz : decode z = .fin c n g) :
    (val x * val y + val z * U = 0 → ∃ b, fma x y z = zero b) ∧ (val x * val y + val z * U ≠ 0 → Right (fma x y z) (decide (val x * val y + val z * U < 0)) (val x * val y + val z * U).natAbs (2 ^ 1074)) := by
  have he := decode_ge hx
  have hf := decode_ge hy
  have hg := decode_ge hz
  have hp : (sgn (a != b) (m * k * 2 ^ (e + f - min (e + f) g).toNat) + sgn c (n * 2 ^ (g - min (e + f) g).toNat)) * ((2 ^ (min (e + f) g + 2148).toNat : Nat) : Int) = val x * val y + val z * U := by
    rw [Int.add_mul, ← sgn_mul, ← sgn_mul, val_eq hx, val_eq hy, val_eq hz, U_nat, ← sgn_mul, ← sgn_xor, Nat.mul_assoc (m * k), Nat.mul_assoc n, Nat.mul_assoc n, ← Nat.pow_add, ← Nat.pow_add, ← Nat.pow_add]
    have e1 : (e + f - min (e + f) g).toNat + (min (e + f) g + 2148).toNat = (e + 1074).toNat + (f + 1074).toNat := by omega
    have e2 : (g - min (e + f) g).toNat + (min (e + f) g + 2148).toNat = (g + 1074).toNat + 1074 := by omega
    rw [e1, e2, Nat.pow_add]
    congr 2
    ac_rfl
  have hfma : fma x y z = (if sgn (a != b) (m * k * 2 ^ (e + f - min (e + f) g).toNat) + sgn c (n * 2 ^ (g - min (e + f) g).toNat) == 0 then zero (if m * k == 0 && n == 0 then (a != b) && c else false)
      else ofBin (decide (sgn (a != b) (m * k * 2 ^ (e + f - min (e + f) g).toNat) + sgn c (n * 2 ^ (g - min (e + f) g).toNat) < 0)) (sgn (a != b) (m * k * 2 ^ (e + f - min (e + f) g).toNat) + sgn c (n * 2 ^ (g - min (e + f) g).toNat)).natAbs (min (e + f) g)) := by
    unfold fma
    rw [hx, hy, hz]
    rfl
  generalize sgn (a != b) (m * k * 2 ^ (e + f - min (e + f) g).toNat) + sgn c (n * 2 ^ (g - min (e + f) g).toNat) = s at *
  have hpos : (0 : Int) < ((2 ^ (min (e + f) g + 2148).toNat : Nat) : Int) := Int.ofNat_lt.mpr (Nat.two_pow_pos _)
  rw [← hp, hfma]
  constructor
  · intro h0
    rcases Int.mul_eq_zero.mp h0 with h1 | h1
    · subst h1; exact ⟨_, rfl⟩
    · omega
  · intro h0
    have hs : s ≠ 0 := by rintro rfl; exact h0 (Int.zero_mul _)
    rw [if_neg (by simpa using hs)]
    have R := ofBin_right (neg := decide (s < 0)) (M := s.natAbs) (g := min (e + f) g) (by omega)
    have e3 : decide (s * ((2 ^ (min (e + f) g + 2148).toNat : Nat) : Int) < 0) = decide (s < 0) := by
      rw [Int.natCast_pow]; exact neg_pow2 s _
    rw [e3, Int.natAbs_mul, Int.natAbs_natCast]
    exact R

theorem Is.fma {x y z : UInt64} {m n p : Int} {e f : Nat} (hx : Is x m e) (hy : Is y n f) (hz : Is z p (e + f)) (he : e + f ≤ 1074) (h : (m * n + p).natAbs ≤ 2 ^ 53) : Is (Float64.fma x y z) (m * n + p) (e + f) := by
  obtain ⟨a, k, i, dx⟩ := fin_decode hx.fin
  obtain ⟨b, l, j, dy⟩ := fin_decode hy.fin
  obtain ⟨c, o, q, dz⟩ := fin_decode hz.fin
  have R := fma_right dx dy dz
  have hv : val x * val y + val z * U = ((m * n + p) * 2 ^ (1074 - (e + f))) * U := by
    rw [hx.val_is (by omega), hy.val_is (by omega), hz.val_is he, Int.add_mul, Int.add_mul]
    congr 1
    rw [U_eq]
    have e1 : (2 : Int) ^ (1074 - e) * 2 ^ (1074 - f) = 2 ^ (1074 - (e + f)) * 2 ^ 1074 := by
      rw [← Int.pow_add, ← Int.pow_add]; congr 1; omega
    calc m * 2 ^ (1074 - e) * (n * 2 ^ (1074 - f)) = m * n * (2 ^ (1074 - e) * 2 ^ (1074 - f)) := by
          generalize (2 : Int) ^ (1074 - e) = P; generalize (2 : Int) ^ (1074 - f) = R; ac_rfl
      _ = _ := by rw [e1, Int.mul_assoc (m * n)]
  by_cases h0 : m * n + p = 0
  · obtain ⟨b', hb⟩ := R.1 (by rw [hv, h0]; simp)
    rw [hb, h0]; exact is_zero _ _
  · have hne : val x * val y + val z * U ≠ 0 := by
      rw [hv]
      intro h1
      rcases Int.mul_eq_zero.mp h1 with h2 | h2
      · rcases Int.mul_eq_zero.mp h2 with h3 | h3
        · exact h0 h3
        · have := two_pos (1074 - (e + f)); omega
      · have := U_pos; omega
    have R2 := R.2 hne
    have e4 : decide ((m * n + p) * 2 ^ (1074 - (e + f)) * U < 0) = decide (m * n + p < 0) := by rw [U_eq, neg_pow2, neg_pow2]
    rw [hv, e4, Int.natAbs_mul, natAbs_U, natAbs_pow2] at R2
    have := right_exact (q := (m * n + p).natAbs) (k := 1074 - (e + f)) R2 (Nat.two_pow_pos _) (Nat.mul_comm _ _) h (by omega)
    refine Is.of_val this.1 he ?_
    rw [this.2, sgn_pow2, sgn_of]

theorem compare_mul {m n P : Int} (hP : 0 < P) : compare (m * P) (n * P) = compare m n := by
  have e1 : (m * P < n * P) ↔ m < n := ⟨fun h => Int.lt_of_mul_lt_mul_right h (Int.le_of_lt hP), fun h => Int.mul_lt_mul_of_pos_right h hP⟩
  have e2 : (m * P = n * P) ↔ m = n := ⟨fun h => Int.eq_of_mul_eq_mul_right (by omega) h, fun h => by rw [h]⟩
  simp only [compare, compareOfLessAndEq, e1, e2]
theorem Is.cmp {x y : UInt64} {m n : Int} {e : Nat} (hx : Is x m e) (hy : Is y n e) : Float64.cmp x y = some (compare m n) := by
  obtain ⟨a, k, i, dx⟩ := fin_decode hx.fin
  obtain ⟨b, l, j, dy⟩ := fin_decode hy.fin
  rw [cmp_right dx dy, ← compare_mul (two_pos e), hx.eq, hy.eq, compare_mul U_pos]
theorem Is.cmpInt {x : UInt64} {m : Int} {e : Nat} (hx : Is x m e) (i : Int) : Float64.cmpInt x i = some (compare m (i * 2 ^ e)) := by
  obtain ⟨a, k, f, dx⟩ := fin_decode hx.fin
  rw [cmpInt_right dx, ← U_eq, ← compare_mul (two_pos e), hx.eq, Int.mul_right_comm, compare_mul U_pos]
theorem Is.isZero {x : UInt64} {m : Int} {e : Nat} (hx : Is x m e) : Float64.isZero x = decide (m = 0) := by
  obtain ⟨a, k, f, dx⟩ := fin_decode hx.fin
  unfold Float64.isZero
  rw [dx]
  have h1 : (m = 0) ↔ k = 0 := by
    constructor
    · intro h0
      have := hx.eq
      rw [h0, Int.zero_mul] at this
      rcases Int.mul_eq_zero.mp this with h2 | h2
      · have := val_natAbs dx
        rw [h2] at this
        rcases Nat.mul_eq_zero.mp this.symm with h3 | h3
        · exact h3
        · have := Nat.two_pow_pos (f + 1074).toNat; omega
      · have := two_pos e; omega
    · rintro rfl
      have h2 := hx.eq
      rw [val_eq dx, Nat.zero_mul] at h2
      have h3 : sgn a 0 = 0 := by cases a <;> rfl
      rw [h3, Int.zero_mul] at h2
      rcases Int.mul_eq_zero.mp h2.symm with h4 | h4
      · exact h4
      · have := U_pos; omega
  cases k with
  | zero => simp [h1]
  | succ k => simp [h1]

theorem pack_self (x : UInt64) : x = pack (signBit x) (x.toNat % 2 ^ 63) := by
  have hx := x.toNat_lt
  apply UInt64.toNat_inj.mp
  rw [pack_toNat _ (Nat.mod_lt _ (by decide))]
  unfold signBit
  by_cases h : x.toNat / 2 ^ 63 = 1
  · simp only [h, beq_self_eq_true, if_true]; omega
  · have : (x.toNat / 2 ^ 63 == 1) = false := by simpa using h
    rw [this]; simp; omega
theorem fin_mag {x : UInt64} (h : isFinite x = true) : x.toNat % 2 ^ 63 < infMag := by
  obtain ⟨a, k, f, dx⟩ := fin_decode h
  unfold decode at dx
  simp only at dx
  split at dx
  · split at dx <;> cases dx
  · rename_i h1
    have h2 : x.toNat / 2 ^ 52 % 2048 ≠ 2047 := by simpa using h1
    show _ < 2047 * 2 ^ 52
    omega
theorem Is.abs {x : UInt64} {m : Int} {e : Nat} (hx : Is x m e) : Is (Float64.abs x) (m.natAbs : Int) e := by
  have hm := fin_mag hx.fin
  obtain ⟨a, k, f, dx⟩ := fin_decode hx.fin
  have hnan : isNaN x = false := by unfold isNaN; rw [dx]
  have hv : val x = sgn (signBit x) (V (x.toNat % 2 ^ 63)) := by
    rw [← val_pack _ hm, ← pack_self x]
  have ha : Float64.abs x = pack false (x.toNat % 2 ^ 63) := by unfold Float64.abs; rw [hnan]; rfl
  obtain ⟨m', e', hd, _⟩ := decode_pack false hm
  refine ⟨by rw [ha]; unfold isFinite; rw [hd], ?_⟩
  rw [ha, val_pack _ hm]
  have h1 : (val x).natAbs = V (x.toNat % 2 ^ 63) := by rw [hv, sgn_natAbs]
  rw [← h1]
  have h2 : (val x * 2 ^ e).natAbs = (m * U).natAbs := by rw [hx.eq]
  rw [natAbs_pow2, Int.natAbs_mul, natAbs_U] at h2
  show (((val x).natAbs : Nat) : Int) * 2 ^ e = _
  rw [U_nat]
  have h3 : (((val x).natAbs * 2 ^ e : Nat) : Int) = ((m.natAbs * 2 ^ 1074 : Nat) : Int) := by rw [h2]
  rw [Int.natCast_mul, Int.natCast_mul, Int.natCast_pow] at h3
  exact h3
end Mine
namespace Mine
open PySem PySem.Float64 PySem.Builtin.Math
/-- what math.fsum keeps while the sum is the int S -/
def Parts (ps : List UInt64) (S : Int) : Prop := (ps = [] ∧ S = 0) ∨ (∃ p, ps = [p] ∧ Is p S 0)

theorem Is.cast {x : UInt64} {m n : Int} {e : Nat} (h : Is x m e) (hm : m = n) : Is x n e := hm ▸ h

theorem two_sum {x y : UInt64} {m n : Int} (hx : Is x m 0) (hy : Is y n 0) (h1 : m.natAbs ≤ 2 ^ 53) (h2 : n.natAbs ≤ 2 ^ 53) (h : (m + n).natAbs ≤ 2 ^ 53) :
    Is (add x y) (m + n) 0 ∧ Is (sub y (sub (add x y) x)) 0 0 := by
  have a := hx.add hy (by omega) h
  have b : Is (sub (add x y) x) n 0 := (a.sub hx (by omega) (by omega)).cast (by omega)
  exact ⟨a, (hy.sub b (by omega) (by omega)).cast (by omega)⟩

theorem fsumAdd_parts {ps : List UInt64} {S n : Int} {x : UInt64} (hp : Parts ps S) (hx : Is x n 0) (h1 : S.natAbs ≤ 2 ^ 53) (h2 : n.natAbs ≤ 2 ^ 53) (h : (S + n).natAbs ≤ 2 ^ 53) :
    ∃ top, fsumAdd ps x = ([], top) ∧ Is top (S + n) 0 := by
  rcases hp with ⟨rfl, rfl⟩ | ⟨p, rfl, hp⟩
  · exact ⟨x, rfl, hx.cast (by omega)⟩
  · unfold fsumAdd
    by_cases hl : lt (Float64.abs x) (Float64.abs p) = true
    · obtain ⟨a, b⟩ := two_sum hp hx h1 h2 h
      simp only [hl, if_true]
      have z := b.isZero
      simp only [decide_true] at z
      exact ⟨_, by simp only [fsumAdd, z, if_true], a⟩
    · obtain ⟨a, b⟩ := two_sum hx hp h2 h1 (by rw [Int.add_comm]; exact h)
      have hl' : lt (Float64.abs x) (Float64.abs p) = false := by simpa using hl
      simp only [hl', Bool.false_eq_true, if_false]
      have z := b.isZero
      simp only [decide_true] at z
      exact ⟨_, by simp only [fsumAdd, z, if_true], a.cast (by omega)⟩

theorem fsumEnd_parts {ps : List UInt64} {S : Int} (hp : Parts ps S) : Is (fsumEnd ps) S 0 := by
  rcases hp with ⟨rfl, rfl⟩ | ⟨p, rfl, hp⟩
  · exact is_zero false 0
  · exact hp

theorem parts_next {top : UInt64} {S : Int} (h : Is top S 0) : Parts (if Float64.isZero top then [] else [] ++ [top]) S := by
  rw [h.isZero]
  by_cases h0 : S = 0
  · subst h0; exact .inl ⟨rfl, rfl⟩
  · simp only [h0, decide_false, Bool.false_eq_true, if_false]; exact .inr ⟨_, rfl, h⟩

theorem dlSum_is {a b : UInt64} {m n : Int} {e : Nat} (ha : Is a m e) (hb : Is b n e) (he : e ≤ 1074) (h1 : m.natAbs ≤ 2 ^ 53) (h2 : n.natAbs ≤ 2 ^ 53) (h : (m + n).natAbs ≤ 2 ^ 53) :
    Is (dlSum a b).1 (m + n) e ∧ Is (dlSum a b).2 0 e := by
  have x := ha.add hb he h
  have z : Is (sub (add a b) a) n e := (x.sub ha he (by omega)).cast (by omega)
  have xz : Is (sub (add a b) (sub (add a b) a)) m e := (x.sub z he (by omega)).cast (by omega)
  have p : Is (sub a (sub (add a b) (sub (add a b) a))) 0 e := (ha.sub xz he (by omega)).cast (by omega)
  have q : Is (sub b (sub (add a b) a)) 0 e := (hb.sub z he (by omega)).cast (by omega)
  exact ⟨x, (p.add q he (by decide)).cast (by omega)⟩

structure Three (t : UInt64 × UInt64 × UInt64) (T : Int) (e : Nat) : Prop where
  hi : Is t.1 T e
  lo : Is t.2.1 0 e
  tiny : Is t.2.2 0 e

theorem tlFma_three {x y : UInt64} {t : UInt64 × UInt64 × UInt64} {m n T : Int} {e : Nat} (ht : Three t T e) (hx : Is x m e) (hy : Is y n 0) (he : e ≤ 1074) (h1 : T.natAbs ≤ 2 ^ 53) (h2 : (m * n).natAbs ≤ 2 ^ 53) (h : (T + m * n).natAbs ≤ 2 ^ 53) :
    Three (tlFma x y t) (T + m * n) e := by
  have z : Is (mul x y) (m * n) e := hx.mul hy (by omega) h2
  have f : Is (Float64.fma x y (Float64.neg (mul x y))) 0 e := (hx.fma hy (z.neg : Is _ _ (e + 0)) (by omega) (by simp [Int.add_right_neg])).cast (by omega)
  obtain ⟨s1, s2⟩ := dlSum_is (a := t.1) (b := (dlMul x y).1) ht.hi z he h1 h2 h
  obtain ⟨r1, r2⟩ := dlSum_is (a := t.2.1) (b := (dlMul x y).2) ht.lo f he (by decide) (by decide) (by decide)
  obtain ⟨q1, q2⟩ := dlSum_is (a := (dlSum t.2.1 (dlMul x y).2).1) (b := (dlSum t.1 (dlMul x y).1).2) r1 s2 he (by decide) (by decide) (by decide)
  refine ⟨s1, q1, ?_⟩
  exact ((ht.tiny.add r2 he (by decide)).add q2 he (by decide))

theorem tlToFloat_three {t : UInt64 × UInt64 × UInt64} {T : Int} {e : Nat} (ht : Three t T e) (he : e ≤ 1074) (h1 : T.natAbs ≤ 2 ^ 53) : Is (tlToFloat t) T e := by
  obtain ⟨s1, s2⟩ := dlSum_is ht.lo ht.hi he (by decide) h1 (by omega)
  have := (ht.tiny.add s2 he (by decide)).add s1 he (by omega)
  exact this.cast (by omega)
end Mine
namespace Mine
open PySem PySem.Float64 PySem.Builtin.Math PyProof.Rows
/-- all that the first heap holds stands in the second -/
def Kp (h h' : Heap) : Prop := ∀ b o, h.get? b = some o → h'.get? b = some o
theorem Kp.refl (h : Heap) : Kp h h := fun _ _ e => e
theorem Kp.trans {a b c : Heap} (x : Kp a b) (y : Kp b c) : Kp a c := fun d o e => y d o (x d o e)
theorem Kp.push (h : Heap) (o : Obj) : Kp h (h.push o) := fun _ _ e => Heap.get?_push_of_some _ e
theorem Kp.push' {g h : Heap} (x : Kp g h) (o : Obj) : Kp g (h.push o) := x.trans (Kp.push _ _)

theorem push1_ne (h : Heap) (o : Obj) : (h.push o).objs.size ≠ h.objs.size := by rw [Heap.size_push]; omega
theorem push2_ne (h : Heap) (o o' : Obj) : ((h.push o).push o').objs.size ≠ h.objs.size := by rw [Heap.size_push, Heap.size_push]; omega

theorem kind_fsum : builtinKind "math.fsum" = none := by decide +kernel
theorem plain_fsum : plainId "math.fsum" = true := by decide +kernel
theorem entry_fsum : entryFor table "math.fsum" = some Builtin.«math.fsum» := entryFor_of_fast (by kernel_rfl)
theorem args_fsum (a : Value) : argsOk "math.fsum" ⟨[a], []⟩ := by unfold argsOk; kernel_rfl
theorem plain_fsum_loop : plainId "math.fsum.loop" = true := by decide +kernel
theorem entry_fsum_loop : entryFor table "math.fsum.loop" = some Builtin.«math.fsum.loop» := entryFor_of_fast (by kernel_rfl)

/-- the tuple in which math.fsum hands its bits on -/
abbrev bitsT (ps : List UInt64) : Obj := { cls := .type "tuple", data := .seq (ps.map fun x => rawInt x.toNat).toArray }

theorem bits_back (ps : List UInt64) : ((some (ps.map fun x => rawInt x.toNat).toArray).getD #[]).toList.map (fun | .int i _ => i.toNat.toUInt64 | _ => 0) = ps := by
  simp only [Option.getD_some, List.map_map]
  conv => rhs; rw [← List.map_id ps]
  apply List.map_congr_left
  intro x _
  simp [rawInt]

theorem parts_short {ps : List UInt64} {S : Int} (h : Parts ps S) : ps.length ≤ 1 := by
  rcases h with ⟨rfl, _⟩ | ⟨p, rfl, _⟩ <;> simp

theorem not_over {n : Int} (h : n.natAbs ≤ 2 ^ 53) : ¬ PySem.Flt.Over n := by
  intro h1
  have h2 : (2 : Nat) ^ 1024 = 2 ^ 54 * 2 ^ 970 := (Nat.pow_add 2 54 970)
  have h3 : 1 ≤ (2 : Nat) ^ 970 := Nat.two_pow_pos _
  unfold PySem.Flt.Over at h1
  rw [h2] at h1
  generalize (2 : Nat) ^ 970 = P at *
  omega

section
variable {prog : Program} {w : World} {A : Around} {R : Result → Shared → Prop}

theorem codeAny_fsum_loop (hh : A.handled = none) {I l : Addr} (hne : l ≠ I) {items : Array Value} (num : Nat → Int) (hnum : ∀ i (v : Value), items[i]? = some v → ∃ t, v = Value.int (num i) t)
    (hb : ∀ i, i ≤ items.size → (preSum num i).natAbs ≤ 2 ^ 53) (hb' : ∀ i, i < items.size → (num i).natAbs ≤ 2 ^ 53) :
    ∀ (k i : Nat) (s : Shared) (T Z : Addr) (ps : List UInt64), items.size - i = k → i ≤ items.size → s.heap.IsListIter I l i → s.heap.IsList l items → Parts ps (preSum num i) →
    s.heap.get? T = some (bitsT ps) → s.heap.get? Z = some (bitsT [Float64.zero false, Float64.zero false]) → T ≠ I → Z ≠ I →
    (∀ h' tk x t, Is x (preSum num items.size) 0 → Heap.ExtBut I s.heap h' → R (.ok (.ret (.float x t))) { s with heap := h', toks := tk }) →
    codeAny (model prog w) A (.builtin "math.fsum.loop" ⟨[.ref I, .ref T, .ref Z], []⟩) R s := by
  intro k
  induction k with
  | zero =>
    intro i s T Z ps hk hi hit hl hp hT hZ hTI hZI hR
    have hin : i = items.size := by omega
    subst hin
    refine codeAny_builtin entry_fsum_loop ?_
    rw [Around.under_plainId plain_fsum_loop _]
    show wpAny _ A.in1 ((do return ((← seqItems? (.ref T)).getD #[]).toList.map fun | .int i _ => i.toNat.toUInt64 | _ => 0) >>= _) _ _ s
    refine wpAny_bind (wpAny_bind (wpAny_seqItems hT rfl (wpAny_pure ?_)))
    rw [bits_back]
    show wpAny _ A.in1 ((do return ((← seqItems? (.ref Z)).getD #[]).toList.map fun | .int i _ => i.toNat.toUInt64 | _ => 0) >>= _) _ _ s
    refine wpAny_bind (wpAny_bind (wpAny_seqItems hZ rfl (wpAny_pure ?_)))
    rw [bits_back]
    show wpAny _ A.in1 (pyNext (.ref I) >>= _) _ _ s
    refine wpAny_bind (wpAny_pyNext_list_end (by exact hh) hit hl (by simp) fun h' he' => ?_)
    have hz : Float64.isZero (Float64.zero false) = true := by rw [(is_zero false 0).isZero]; rfl
    dsimp only
    rw [hz]
    show wpAny _ A.in1 (mkFloat (fsumEnd ps) >>= _) _ _ _
    exact wpAny_bind (wpAny_mkFloat (wpAny_pure (hR _ _ _ _ (fsumEnd_parts hp) he')))
  | succ k ih =>
    intro i s T Z ps hk hi hit hl hp hT hZ hTI hZI hR
    have hlt : i < items.size := by omega
    obtain ⟨t, hv⟩ := hnum i items[i] (by simp [hlt])
    refine codeAny_builtin entry_fsum_loop ?_
    rw [Around.under_plainId plain_fsum_loop _]
    show wpAny _ A.in1 ((do return ((← seqItems? (.ref T)).getD #[]).toList.map fun | .int i _ => i.toNat.toUInt64 | _ => 0) >>= _) _ _ s
    refine wpAny_bind (wpAny_bind (wpAny_seqItems hT rfl (wpAny_pure ?_)))
    rw [bits_back]
    show wpAny _ A.in1 ((do return ((← seqItems? (.ref Z)).getD #[]).toList.map fun | .int i _ => i.toNat.toUInt64 | _ => 0) >>= _) _ _ s
    refine wpAny_bind (wpAny_bind (wpAny_seqItems hZ rfl (wpAny_pure ?_)))
    rw [bits_back]
    show wpAny _ A.in1 (pyNext (.ref I) >>= _) _ _ s
    refine wpAny_bind (wpAny_pyNext_list_item hit hl (x := items[i]) (by simp [hlt]) fun h' hit' hs' => ?_)
    rw [hv]
    show wpAny _ A.in1 (holding [_] (realArg _) >>= _) _ _ _
    refine wpAny_bind (wpAny_holding (PySem.Flt.realArg_int (by exact hh) (fun ho => absurd ho (not_over (hb' i hlt))) fun _ => ?_))
    obtain ⟨top, hadd, htop⟩ := fsumAdd_parts hp (is_ofInt (hb' i hlt)) (hb i hi) (hb' i hlt) (hb (i + 1) hlt)
    rw [hadd]
    dsimp only
    rw [htop.fin]
    have hnext := parts_next htop
    show wpAny _ A.in1 (newTuple ((if Float64.isZero top then [] else [] ++ [top]).map fun x => rawInt x.toNat) >>= _) _ _ _
    generalize (if Float64.isZero top then [] else [] ++ [top]) = ps' at hnext ⊢
    refine wpAny_bind (wpAny_newTuple ?_ (by rw [List.length_map]; exact Nat.le_trans (parts_short hnext) (by decide)))
    have hI := let ⟨o, ho, _⟩ := hit'; Heap.lt_size ho
    refine wpAny_pure ⟨plainId_quiet plain_fsum_loop _, ih (i + 1) _ h'.objs.size Z ps' (by omega) hlt (hit'.extBut (b := h'.objs.size) (fun b o _ e => Heap.get?_push_of_some _ e) (Nat.ne_of_lt hI)) ((hl.extBut hs'.extBut hne).push _) hnext
      (Heap.get?_push_size _ rfl) (Heap.get?_push_of_some _ (hs'.extBut _ _ hZI hZ)) (Nat.ne_of_gt hI) hZI fun h'' tk x t hx he => ?_⟩
    exact hR _ _ _ _ hx fun b o hb e => he b o hb (Heap.get?_push_of_some _ (hs'.extBut _ _ hb e))

theorem ints_num {vs : List Value} {ns : List Int} (h : IntsAre vs ns) : ∀ i (v : Value), vs.toArray[i]? = some v → ∃ t, v = Value.int (ns.getD i 0) t := by
  induction h with
  | nil => intro i v h; simp at h
  | cons n t _ ih =>
    intro i v h
    cases i with
    | zero => simp at h; exact ⟨t, by simp [h]⟩
    | succ i => simp at h; obtain ⟨u, hu⟩ := ih i v (by simpa using h); exact ⟨u, by simpa using hu⟩
theorem preSum_take (ns : List Int) (i : Nat) (hi : i ≤ ns.length) : preSum (fun j => ns.getD j 0) i = (ns.take i).sum := by
  induction i with
  | zero => simp [preSum]
  | succ i ih =>
    rw [preSum, ih (by omega), List.take_succ_eq_append_getElem (by omega), List.sum_append]
    simp [List.getD_eq_getElem?_getD, List.getElem?_eq_getElem (show i < ns.length by omega)]

/-- math.fsum of a list of ints whose sums on the way are small -/
theorem call_fsum {E : Value → Shared → Prop} {s : Shared} {l : Addr} {vs : List Value} {ns : List Int} {Q : Value → Shared → Prop} (hh : A.handled = none) (hl : s.heap.IsList l vs.toArray) (hi : IntsAre vs ns)
    (hb : ∀ i, i ≤ ns.length → (ns.take i).sum.natAbs ≤ 2 ^ 53) (hb' : ∀ n ∈ ns, n.natAbs ≤ 2 ^ 53)
    (hQ : ∀ h' tk x t, Is x ns.sum 0 → Kp s.heap h' → Q (.float x t) { s with heap := h', toks := tk }) :
    wpAny (model prog w) A (call (.builtin "math.fsum") [.ref l]) Q E s := by
  have hlen := hi.length
  refine call_function_tree kind_fsum plain_fsum entry_fsum (args_fsum _) ?_
  show wpAny _ _ (pyIter (.ref l) >>= _) _ _ s
  refine wpAny_bind (wpAny_pyIter_list hl ?_)
  show wpAny _ _ (newTuple [] >>= _) _ _ _
  refine wpAny_bind (wpAny_newTuple ?_)
  show wpAny _ _ (newTuple ([Float64.zero false, Float64.zero false].map fun x => rawInt x.toNat) >>= _) _ _ _
  refine wpAny_bind (wpAny_newTuple ?_ (by simp [sizeLine]))
  have hIl : l ≠ s.heap.objs.size := let ⟨o, ho, _⟩ := hl; Nat.ne_of_lt (Heap.lt_size ho)
  refine wpAny_pure ⟨plainId_quiet plain_fsum_loop _, codeAny_fsum_loop hh hIl (fun i => ns.getD i 0) (ints_num hi) ?_ ?_ _ 0 _ _ _ [] rfl (Nat.zero_le _) ⟨_, Heap.get?_push_of_some _ (Heap.get?_push_of_some _ (Heap.get?_push_size _ rfl)), rfl, rfl⟩ (((hl.push _).push _).push _)
    (.inl ⟨rfl, rfl⟩) (Heap.get?_push_of_some _ (Heap.get?_push_size _ rfl)) (Heap.get?_push_size _ rfl) (push1_ne _ _) (push2_ne _ _ _) ?_⟩
  · intro i hi'
    rw [preSum_take _ _ (by simp at hi'; omega)]
    exact hb i (by simp at hi'; omega)
  · intro i hi'
    have : i < ns.length := by simp at hi'; omega
    apply hb'
    simp [List.getD_eq_getElem?_getD, List.getElem?_eq_getElem this]
  · intro h' tk x t hx he
    rw [preSum_take _ _ (by simp; omega)] at hx
    have e1 : ns.take vs.toArray.size = ns := List.take_of_length_le (by simp; omega)
    rw [e1] at hx
    exact hQ _ _ _ _ hx fun b o e => he b o (Nat.ne_of_lt (Heap.lt_size e)) (Heap.get?_push_of_some _ (Heap.get?_push_of_some _ (Heap.get?_push_of_some _ e)))
end
end Mine
namespace Mine
open PySem PySem.Float64 PySem.Builtin.Math PyProof.Rows
theorem kind_sumprod : builtinKind "math.sumprod" = none := by decide +kernel
theorem plain_sumprod : plainId "math.sumprod" = true := by decide +kernel
theorem entry_sumprod : entryFor table "math.sumprod" = some Builtin.«math.sumprod» := entryFor_of_fast (by kernel_rfl)
theorem args_sumprod (a b : Value) : argsOk "math.sumprod" ⟨[a, b], []⟩ := by unfold argsOk; kernel_rfl
theorem plain_sumprod_loop : plainId "math.sumprod.loop" = true := by decide +kernel
theorem entry_sumprod_loop : entryFor table "math.sumprod.loop" = some Builtin.«math.sumprod.loop» := entryFor_of_fast (by kernel_rfl)

theorem bits1 (x : UInt64) : ((x.toNat : Int).toNat).toUInt64 = x := by simp

/-- two list iterators at the same place, over a heap whose old part is kept -/
structure Two (g h : Heap) (I J l m : Addr) (i : Nat) (xs ys : Array Value) : Prop where
  itI : h.IsListIter I l i
  itJ : h.IsListIter J m i
  lsI : h.IsList l xs
  lsJ : h.IsList m ys
  IJ : I ≠ J
  lI : l ≠ I
  lJ : l ≠ J
  mI : m ≠ I
  mJ : m ≠ J
  kp : Kp g h
  gI : g.get? I = none
  gJ : g.get? J = none

theorem Two.after {g h h' : Heap} {I J l m : Addr} {i : Nat} {xs ys : Array Value} (x : Two g h I J l m i xs ys) (k : Kp h h') : Two g h' I J l m i xs ys :=
  { x with
    itI := let ⟨o, ho, r⟩ := x.itI; ⟨o, k _ _ ho, r⟩
    itJ := let ⟨o, ho, r⟩ := x.itJ; ⟨o, k _ _ ho, r⟩
    lsI := let ⟨o, ho, r⟩ := x.lsI; ⟨o, k _ _ ho, r⟩
    lsJ := let ⟨o, ho, r⟩ := x.lsJ; ⟨o, k _ _ ho, r⟩
    kp := x.kp.trans k }
theorem Two.next {g h h' h'' : Heap} {I J l m : Addr} {i : Nat} {xs ys : Array Value} (x : Two g h I J l m i xs ys) (a : h'.IsListIter I l (i + 1)) (b : Heap.SameBut I h h') (c : h''.IsListIter J m (i + 1)) (d : Heap.SameBut J h' h'') :
    Two g h'' I J l m (i + 1) xs ys :=
  { x with
    itI := a.extBut d.extBut x.IJ
    itJ := c
    lsI := (x.lsI.extBut b.extBut x.lI).extBut d.extBut x.lJ
    lsJ := (x.lsJ.extBut b.extBut x.mI).extBut d.extBut x.mJ
    kp := fun e o he => d.extBut e o (fun h => by rw [h, x.gJ] at he; cases he) (b.extBut e o (fun h => by rw [h, x.gI] at he; cases he) (x.kp e o he)) }

abbrev threeT (t : UInt64 × UInt64 × UInt64) : Obj := bitsT [t.1, t.2.1, t.2.2]
abbrev zero3 : UInt64 × UInt64 × UInt64 := (Float64.zero false, Float64.zero false, Float64.zero false)

abbrev spCode (I J : Addr) (total : Value) (io : Bool) (isum : Int) (iu fo : Bool) (T : Addr) (fu : Bool) : Code :=
  .builtin "math.sumprod.loop" ⟨[.ref I, .ref J, total, .bool io, rawInt isum, .bool iu, .bool fo, .ref T, .bool fu], []⟩

def fits (i : Int) : Bool := -(2 ^ 63) ≤ i && i ≤ maxSsize
theorem fits_of {i : Int} (h : i.natAbs ≤ 2 ^ 53) : fits i = true := by
  unfold fits maxSsize
  simp only [Bool.and_eq_true, decide_eq_true_eq]
  omega
theorem Two.kept {g h h' h'' : Heap} {I J l m : Addr} {i : Nat} {xs ys : Array Value} (x : Two g h I J l m i xs ys) (b : Heap.ExtBut I h h') (d : Heap.ExtBut J h' h'') : Kp g h'' :=
  fun e o he => d e o (fun h => by rw [h, x.gJ] at he; cases he) (b e o (fun h => by rw [h, x.gI] at he; cases he) (x.kp e o he))
theorem none_of_kp {g h : Heap} {a : Addr} (k : Kp g h) (e : h.get? a = none) : g.get? a = none := by
  cases q : g.get? a with
  | none => rfl
  | some o => rw [k _ _ q] at e; cases e

section
variable {prog : Program} {w : World} {A : Around} {R : Result → Shared → Prop}

/-- two ints, the int path open -/
theorem sp_ints {g : Heap} {s : Shared} {I J l m : Addr} {i : Nat} {xs ys : Array Value} {T : Addr} {t : UInt64 × UInt64 × UInt64} {t0 : Tok} {isum : Int} {iu : Bool}
    (hh : A.handled = none) (H : Two g s.heap I J l m i xs ys) (hT : s.heap.get? T = some (threeT t)) (hTI : T ≠ I) (hTJ : T ≠ J) {a b : Int} {ta tb : Tok}
    (hp : xs[i]? = some (.int a ta)) (hq : ys[i]? = some (.int b tb)) (ha : a.natAbs ≤ 2 ^ 53) (hb : b.natAbs ≤ 2 ^ 53) (hab : (a * b).natAbs ≤ 2 ^ 53) (hs : (isum + a * b).natAbs ≤ 2 ^ 53)
    (hR : ∀ h tk, Two g h I J l m (i + 1) xs ys → h.get? T = some (threeT t) → codeAny (model prog w) A (spCode I J (.int 0 t0) true (isum + a * b) true true T false) R { s with heap := h, toks := tk }) :
    codeAny (model prog w) A (spCode I J (.int 0 t0) true isum iu true T false) R s := by
  refine codeAny_builtin entry_sumprod_loop ?_
  rw [Around.under_plainId plain_sumprod_loop _]
  show wpAny _ A.in1 (seqItems? (.ref T) >>= _) _ _ s
  refine wpAny_bind (wpAny_seqItems hT rfl ?_)
  show wpAny _ A.in1 (pyNext (.ref I) >>= _) _ _ s
  refine wpAny_bind (wpAny_pyNext_list_item H.itI H.lsI hp fun h₁ it₁ sb₁ => ?_)
  show wpAny _ A.in1 (holding _ (pyNext (.ref J)) >>= _) _ _ _
  refine wpAny_bind (wpAny_holding (wpAny_pyNext_list_item (H.itJ.extBut sb₁.extBut (Ne.symm H.IJ)) (H.lsJ.extBut sb₁.extBut H.mI) hq fun h₂ it₂ sb₂ => ?_))
  have hk : Kp g h₂ := H.kept sb₁.extBut sb₂.extBut
  show wpAny _ A.in1 (if (fits a && fits b && fits (a * b) && fits (isum + a * b)) = true then _ else _) _ _ _
  rw [if_pos (by simp only [fits_of ha, fits_of hb, fits_of hab, fits_of hs, Bool.and_self])]
  refine wpAny_pure ⟨plainId_quiet plain_sumprod_loop _, ?_⟩
  exact hR h₂ _ (H.next it₁ sb₁ it₂ sb₂) (sb₂.extBut _ _ hTJ (sb₁.extBut _ _ hTI hT))

/-- both lists at their end, the int path open -/
theorem sp_ints_end {g : Heap} {s : Shared} {I J l m : Addr} {i : Nat} {xs ys : Array Value} {T : Addr} {t : UInt64 × UInt64 × UInt64} {t0 : Tok} {isum : Int} {iu : Bool}
    (hh : A.handled = none) (H : Two g s.heap I J l m i xs ys) (hT : s.heap.get? T = some (threeT t))
    (hp : xs[i]? = none) (hq : ys[i]? = none) (hz : iu = false → isum = 0)
    (hR : ∀ h tk u, Kp g h → R (.ok (.ret (.int isum u))) { s with heap := h, toks := tk }) :
    codeAny (model prog w) A (spCode I J (.int 0 t0) true isum iu true T false) R s := by
  refine codeAny_builtin entry_sumprod_loop ?_
  rw [Around.under_plainId plain_sumprod_loop _]
  show wpAny _ A.in1 (seqItems? (.ref T) >>= _) _ _ s
  refine wpAny_bind (wpAny_seqItems hT rfl ?_)
  show wpAny _ A.in1 (pyNext (.ref I) >>= _) _ _ s
  refine wpAny_bind (wpAny_pyNext_list_end (by exact hh) H.itI H.lsI hp fun h₁ eb₁ => ?_)
  show wpAny _ A.in1 (holding _ (pyNext (.ref J)) >>= _) _ _ _
  refine wpAny_bind (wpAny_holding (wpAny_pyNext_list_end (by exact hh) (H.itJ.extBut eb₁ (Ne.symm H.IJ)) (H.lsJ.extBut eb₁ H.mI) hq fun h₂ eb₂ => ?_))
  have hk : Kp g h₂ := H.kept eb₁ eb₂
  show wpAny _ A.in1 (rule "math.sumprod.leaves-ints" >>= _) _ _ _
  refine wpAny_bind (wpAny_rule ?_)
  cases iu with
  | true =>
    show wpAny _ A.in1 (mkInt isum >>= _) _ _ _
    refine wpAny_bind (wpAny_mkInt ?_)
    refine wpAny_bind (wpAny_holding (add_int ?_))
    show wpAny _ A.in1 (rule "math.sumprod.leaves-floats" >>= _) _ _ _
    refine wpAny_bind (wpAny_rule (wpAny_pure ?_))
    rw [Int.zero_add]
    exact hR _ _ _ hk
  | false =>
    show wpAny _ A.in1 (rule "math.sumprod.leaves-floats" >>= _) _ _ _
    refine wpAny_bind (wpAny_rule (wpAny_pure ?_))
    have := hR h₂ s.toks t0 hk
    rw [hz rfl] at this
    exact this

/-- the first list ends first -/
theorem sp_short {g : Heap} {s : Shared} {I J l m : Addr} {i : Nat} {xs ys : Array Value} {T : Addr} {t : UInt64 × UInt64 × UInt64} {t0 : Tok} {isum : Int} {iu : Bool}
    (hh : A.handled = none) (H : Two g s.heap I J l m i xs ys) (hT : s.heap.get? T = some (threeT t)) {q : Value} {io fo fu : Bool} {total : Value}
    (hp : xs[i]? = none) (hq : ys[i]? = some q)
    (hR : ∀ h tk e, Heap.NewExc g h e "ValueError" → R (.error (.ref e)) { s with heap := h, toks := tk }) :
    codeAny (model prog w) A (spCode I J total io isum iu fo T fu) R s := by
  refine codeAny_builtin entry_sumprod_loop ?_
  rw [Around.under_plainId plain_sumprod_loop _]
  show wpAny _ A.in1 (seqItems? (.ref T) >>= _) _ _ s
  refine wpAny_bind (wpAny_seqItems hT rfl ?_)
  show wpAny _ A.in1 (pyNext (.ref I) >>= _) _ _ s
  refine wpAny_bind (wpAny_pyNext_list_end (by exact hh) H.itI H.lsI hp fun h₁ eb₁ => ?_)
  show wpAny _ A.in1 (holding _ (pyNext (.ref J)) >>= _) _ _ _
  refine wpAny_bind (wpAny_holding (wpAny_pyNext_list_item (H.itJ.extBut eb₁ (Ne.symm H.IJ)) (H.lsJ.extBut eb₁ H.mI) hq fun h₂ it₂ sb₂ => ?_))
  have hk : Kp g h₂ := H.kept eb₁ sb₂.extBut
  refine wpAny_bind (wpAny_rule ?_)
  refine wpAny_bind ?_
  exact_raiseError plainExc_ValueError (by exact hh) (fun h tk e ne => hR _ _ _ ⟨fun b o x => ne.keeps b o (hk b o x), none_of_kp hk ne.new, ne.there⟩)

/-- the second list ends first -/
theorem sp_long {g : Heap} {s : Shared} {I J l m : Addr} {i : Nat} {xs ys : Array Value} {T : Addr} {t : UInt64 × UInt64 × UInt64} {t0 : Tok} {isum : Int} {iu : Bool}
    (hh : A.handled = none) (H : Two g s.heap I J l m i xs ys) (hT : s.heap.get? T = some (threeT t)) {p : Value} {io fo fu : Bool} {total : Value}
    (hp : xs[i]? = some p) (hq : ys[i]? = none)
    (hR : ∀ h tk e, Heap.NewExc g h e "ValueError" → R (.error (.ref e)) { s with heap := h, toks := tk }) :
    codeAny (model prog w) A (spCode I J total io isum iu fo T fu) R s := by
  refine codeAny_builtin entry_sumprod_loop ?_
  rw [Around.under_plainId plain_sumprod_loop _]
  show wpAny _ A.in1 (seqItems? (.ref T) >>= _) _ _ s
  refine wpAny_bind (wpAny_seqItems hT rfl ?_)
  show wpAny _ A.in1 (pyNext (.ref I) >>= _) _ _ s
  refine wpAny_bind (wpAny_pyNext_list_item H.itI H.lsI hp fun h₁ it₁ sb₁ => ?_)
  show wpAny _ A.in1 (holding _ (pyNext (.ref J)) >>= _) _ _ _
  refine wpAny_bind (wpAny_holding (wpAny_pyNext_list_end (by exact hh) (H.itJ.extBut sb₁.extBut (Ne.symm H.IJ)) (H.lsJ.extBut sb₁.extBut H.mI) hq fun h₂ eb₂ => ?_))
  have hk : Kp g h₂ := H.kept sb₁.extBut eb₂
  refine wpAny_bind (wpAny_rule ?_)
  refine wpAny_bind ?_
  exact_raiseError plainExc_ValueError (by exact hh) (fun h tk e ne => hR _ _ _ ⟨fun b o x => ne.keeps b o (hk b o x), none_of_kp hk ne.new, ne.there⟩)

/-- a float and an int: the float path -/
theorem sp_floats {g : Heap} {s : Shared} {I J l m : Addr} {i : Nat} {xs ys : Array Value} {T : Addr} {t : UInt64 × UInt64 × UInt64} {t0 : Tok} {isum : Int} {iu : Bool}
    (hh : A.handled = none) (H : Two g s.heap I J l m i xs ys) (hT : s.heap.get? T = some (threeT t)) (hTI : T ≠ I) (hTJ : T ≠ J) {io fu : Bool} {x : UInt64} {b n S : Int} {e : Nat} {ta tb : Tok}
    (hio : iu = false) (hp : xs[i]? = some (.float x ta)) (hq : ys[i]? = some (.int b tb)) (hx : Is x n e) (he : e ≤ 1074) (ht : Three t S e) (hb : b.natAbs ≤ 2 ^ 53) (hS : S.natAbs ≤ 2 ^ 53) (hnb : (n * b).natAbs ≤ 2 ^ 53) (hs : (S + n * b).natAbs ≤ 2 ^ 53)
    (hR : ∀ h tk T' t', Two g h I J l m (i + 1) xs ys → T' ≠ I → T' ≠ J → h.get? T' = some (threeT t') → Three t' (S + n * b) e →
      codeAny (model prog w) A (spCode I J (.int 0 t0) false 0 false true T' true) R { s with heap := h, toks := tk }) :
    codeAny (model prog w) A (spCode I J (.int 0 t0) io isum iu true T fu) R s := by
  subst hio
  refine codeAny_builtin entry_sumprod_loop ?_
  rw [Around.under_plainId plain_sumprod_loop _]
  show wpAny _ A.in1 (seqItems? (.ref T) >>= _) _ _ s
  refine wpAny_bind (wpAny_seqItems hT rfl ?_)
  show wpAny _ A.in1 (pyNext (.ref I) >>= _) _ _ s
  refine wpAny_bind (wpAny_pyNext_list_item H.itI H.lsI hp fun h₁ it₁ sb₁ => ?_)
  show wpAny _ A.in1 (holding _ (pyNext (.ref J)) >>= _) _ _ _
  refine wpAny_bind (wpAny_holding (wpAny_pyNext_list_item (H.itJ.extBut sb₁.extBut (Ne.symm H.IJ)) (H.lsJ.extBut sb₁.extBut H.mI) hq fun h₂ it₂ sb₂ => ?_))
  have hk : Kp g h₂ := H.kept sb₁.extBut sb₂.extBut
  have hn := tlFma_three ht hx (is_ofInt hb) he hS hnb hs
  have hinf : Float64.isInf (Float64.ofInt b) = false := by simpa using PySem.Flt.fin_of_fits (not_over hb)
  have H₂ := H.next it₁ sb₁ it₂ sb₂
  have goal : wpAny (model prog w) A.in1 (newTuple [rawInt (tlFma x (Float64.ofInt b) t).1.toNat, rawInt (tlFma x (Float64.ofInt b) t).2.1.toNat, rawInt (tlFma x (Float64.ofInt b) t).2.2.toNat] >>= fun v =>
      again (.builtin "math.sumprod.loop" ⟨[.ref I, .ref J, .int 0 t0, .bool false, rawInt 0, .bool false, .bool true, v, .bool true], []⟩))
      (fun fin s' => match fin with | .done f => R (.ok f) s' | .again c' => c'.quiet = true ∧ codeAny (model prog w) A c' R s') (fun e s' => R (.error e) s') { s with heap := h₂ } := by
    refine wpAny_bind (wpAny_newTuple (wpAny_pure ⟨plainId_quiet plain_sumprod_loop _, ?_⟩))
    have hI := let ⟨_, ho, _⟩ := H₂.itI; Heap.lt_size ho
    have hJ := let ⟨_, ho, _⟩ := H₂.itJ; Heap.lt_size ho
    exact hR _ _ _ (tlFma x (Float64.ofInt b) t) (H₂.after (Kp.push _ _)) (Nat.ne_of_gt hI) (Nat.ne_of_gt hJ) (Heap.get?_push_size _ rfl) hn
  have hfin := hn.hi.fin
  cases io with
  | true =>
    show wpAny _ A.in1 (rule "math.sumprod.leaves-ints" >>= _) _ _ _
    refine wpAny_bind (wpAny_rule ?_)
    simp only [hinf, Bool.true_or, if_true, Bool.false_eq_true, if_false, bits1, hfin]
    exact goal
  | false =>
    simp only [hinf, Bool.true_or, if_true, Bool.false_eq_true, if_false, bits1, hfin]
    exact goal

/-- two ints behind floats: the float path is left -/
theorem sp_leave {g : Heap} {s : Shared} {I J l m : Addr} {i : Nat} {xs ys : Array Value} {T : Addr} {t : UInt64 × UInt64 × UInt64} {t0 : Tok} {isum : Int} {iu : Bool}
    (hh : A.handled = none) (H : Two g s.heap I J l m i xs ys) (hT : s.heap.get? T = some (threeT t)) (hTI : T ≠ I) (hTJ : T ≠ J) {a b S : Int} {e : Nat} {ta tb : Tok}
    (hp : xs[i]? = some (.int a ta)) (hq : ys[i]? = some (.int b tb)) (hm : IntMulOk a b) (he : e ≤ 1074) (ht : Three t S e) (hS : S.natAbs ≤ 2 ^ 53) (hab : ((a * b) * 2 ^ e).natAbs ≤ 2 ^ 53) (hs : (S + (a * b) * 2 ^ e).natAbs ≤ 2 ^ 53)
    (hR : ∀ h tk x u, Two g h I J l m (i + 1) xs ys → h.get? T = some (threeT t) → Is x (S + (a * b) * 2 ^ e) e →
      codeAny (model prog w) A (spCode I J (.float x u) false 0 false false T false) R { s with heap := h, toks := tk }) :
    codeAny (model prog w) A (spCode I J (.int 0 t0) false isum iu true T true) R s := by
  refine codeAny_builtin entry_sumprod_loop ?_
  rw [Around.under_plainId plain_sumprod_loop _]
  show wpAny _ A.in1 (seqItems? (.ref T) >>= _) _ _ s
  refine wpAny_bind (wpAny_seqItems hT rfl ?_)
  show wpAny _ A.in1 (pyNext (.ref I) >>= _) _ _ s
  refine wpAny_bind (wpAny_pyNext_list_item H.itI H.lsI hp fun h₁ it₁ sb₁ => ?_)
  show wpAny _ A.in1 (holding _ (pyNext (.ref J)) >>= _) _ _ _
  refine wpAny_bind (wpAny_holding (wpAny_pyNext_list_item (H.itJ.extBut sb₁.extBut (Ne.symm H.IJ)) (H.lsJ.extBut sb₁.extBut H.mI) hq fun h₂ it₂ sb₂ => ?_))
  have hk : Kp g h₂ := H.kept sb₁.extBut sb₂.extBut
  have hsmall : (a * b).natAbs ≤ 2 ^ 53 := by
    rw [natAbs_pow2] at hab
    exact Nat.le_trans (Nat.le_mul_of_pos_right _ (Nat.two_pow_pos _)) hab
  have hbig : (2 : Nat) ^ 53 < 2 ^ 1023 := Nat.pow_lt_pow_right (by decide) (by decide)
  have f1 := tlToFloat_three ht he hS
  have f2 : Is (Float64.add (Float64.ofInt 0) (tlToFloat t)) S e := by
    have z : Is (Float64.ofInt 0) 0 e := by
      have h := (is_ofInt (i := 0) (by decide)).up e
      rw [Nat.zero_add] at h
      exact h.cast (by simp)
    exact (z.add f1 he (by rw [Int.zero_add]; exact hS)).cast (Int.zero_add _)
  have f3 : Is (Float64.add (Float64.add (Float64.ofInt 0) (tlToFloat t)) (Float64.ofInt (a * b))) (S + (a * b) * 2 ^ e) e := by
    have z : Is (Float64.ofInt (a * b)) (a * b * 2 ^ e) e := by
      have := (is_ofInt hsmall).up e
      rw [Nat.zero_add] at this
      exact this
    exact f2.add z he hs
  show wpAny _ A.in1 (rule "math.sumprod.leaves-floats" >>= _) _ _ _
  refine wpAny_bind (wpAny_rule ?_)
  show wpAny _ A.in1 (mkFloat (tlToFloat (((t.1.toNat : Int).toNat).toUInt64, ((t.2.1.toNat : Int).toNat).toUInt64, ((t.2.2.toNat : Int).toNat).toUInt64)) >>= _) _ _ _
  rw [bits1, bits1, bits1]
  refine wpAny_bind (wpAny_mkFloat ?_)
  refine wpAny_bind (wpAny_holding (add_if_fits (by omega) ?_))
  show wpAny _ A.in1 (holding _ (binaryOp .Mult (.int a ta) (.int b tb)) >>= _) _ _ _
  refine wpAny_bind (wpAny_holding (mul_int ?_ hm))
  refine wpAny_bind (wpAny_holding (add_fi_fits (by omega) ?_))
  refine wpAny_pure ⟨plainId_quiet plain_sumprod_loop _, ?_⟩
  exact hR _ _ _ _ (H.next it₁ sb₁ it₂ sb₂) (sb₂.extBut _ _ hTJ (sb₁.extBut _ _ hTI hT)) f3

/-- both lists at their end, all paths left -/
theorem sp_end {g : Heap} {s : Shared} {I J l m : Addr} {i : Nat} {xs ys : Array Value} {T : Addr} {t : UInt64 × UInt64 × UInt64} {t0 : Tok} {isum : Int} {iu : Bool}
    (hh : A.handled = none) (H : Two g s.heap I J l m i xs ys) (hT : s.heap.get? T = some (threeT t)) {total : Value} {fu : Bool}
    (hp : xs[i]? = none) (hq : ys[i]? = none)
    (hR : ∀ h tk, Kp g h → R (.ok (.ret total)) { s with heap := h, toks := tk }) :
    codeAny (model prog w) A (spCode I J total false isum iu false T fu) R s := by
  refine codeAny_builtin entry_sumprod_loop ?_
  rw [Around.under_plainId plain_sumprod_loop _]
  show wpAny _ A.in1 (seqItems? (.ref T) >>= _) _ _ s
  refine wpAny_bind (wpAny_seqItems hT rfl ?_)
  show wpAny _ A.in1 (pyNext (.ref I) >>= _) _ _ s
  refine wpAny_bind (wpAny_pyNext_list_end (by exact hh) H.itI H.lsI hp fun h₁ eb₁ => ?_)
  show wpAny _ A.in1 (holding _ (pyNext (.ref J)) >>= _) _ _ _
  refine wpAny_bind (wpAny_holding (wpAny_pyNext_list_end (by exact hh) (H.itJ.extBut eb₁ (Ne.symm H.IJ)) (H.lsJ.extBut eb₁ H.mI) hq fun h₂ eb₂ => ?_))
  have hk : Kp g h₂ := H.kept eb₁ eb₂
  exact wpAny_pure (hR _ _ hk)
end
end Mine
namespace Mine
open PySem PySem.Float64 PySem.Builtin.Math PyProof.Rows
/-- the items from 0 on below n are the ints num -/
def IntAt (xs : Array Value) (n : Nat) (num : Nat → Int) : Prop := ∀ i, i < n → ∃ t, xs[i]? = some (.int (num i) t)
theorem ints_at {vs : List Value} {ns : List Int} (h : IntsAre vs ns) : IntAt vs.toArray vs.length (fun i => ns.getD i 0) := fun i hi => by
  obtain ⟨t, ht⟩ := ints_num h i vs[i] (by simp [hi])
  exact ⟨t, by rw [← ht]; simp [hi]⟩

abbrev dot (a b : Nat → Int) (i : Nat) : Int := preSum (fun j => a j * b j) i

structure DotOk (a b : Nat → Int) (n : Nat) : Prop where
  fa : ∀ i, i < n → (a i).natAbs ≤ 2 ^ 53
  fb : ∀ i, i < n → (b i).natAbs ≤ 2 ^ 53
  ab : ∀ i, i < n → (a i * b i).natAbs ≤ 2 ^ 53
  sum : ∀ i, i ≤ n → (dot a b i).natAbs ≤ 2 ^ 53

section
variable {prog : Program} {w : World} {A : Around} {R : Result → Shared → Prop}

theorem sp_run {g : Heap} {I J l m : Addr} {xs ys : Array Value} {T : Addr} {a b : Nat → Int} (n : Nat) (hh : A.handled = none) (hx : IntAt xs n a) (hy : IntAt ys n b) (ok : DotOk a b n) (hTI : T ≠ I) (hTJ : T ≠ J) {t0 : Tok} {s₀ : Shared}
    (hR : ∀ h tk iu, (iu = false → n = 0) → Two g h I J l m n xs ys → h.get? T = some (threeT zero3) → codeAny (model prog w) A (spCode I J (.int 0 t0) true (dot a b n) iu true T false) R { s₀ with heap := h, toks := tk }) :
    ∀ (k i : Nat) (h : Heap) (tk : Nat) (iu : Bool), n - i = k → i ≤ n → (iu = false → i = 0) → Two g h I J l m i xs ys → h.get? T = some (threeT zero3) →
      codeAny (model prog w) A (spCode I J (.int 0 t0) true (dot a b i) iu true T false) R { s₀ with heap := h, toks := tk } := by
  intro k
  induction k with
  | zero =>
    intro i h tk iu hk hi hz H hT
    have : i = n := by omega
    subst this
    exact hR h tk iu hz H hT
  | succ k ih =>
    intro i h tk iu hk hi hz H hT
    have hlt : i < n := by omega
    obtain ⟨ta, ea⟩ := hx i hlt
    obtain ⟨tb, eb⟩ := hy i hlt
    refine sp_ints (s := { s₀ with heap := h, toks := tk }) hh H hT hTI hTJ ea eb (ok.fa i hlt) (ok.fb i hlt) (ok.ab i hlt) (ok.sum (i + 1) hlt) fun h' tk' H' hT' => ?_
    exact ih (i + 1) h' tk' true (by omega) hlt (by intro e; cases e) H' hT'

theorem sp_start {E : Value → Shared → Prop} {s : Shared} {l m : Addr} {xs ys : Array Value} {Q : Value → Shared → Prop} (hl : s.heap.IsList l xs) (hm : s.heap.IsList m ys)
    (h : ∀ I J T h' t0 tk, Two s.heap h' I J l m 0 xs ys → T ≠ I → T ≠ J → h'.get? T = some (threeT zero3) →
      codeAny (model prog w) A (spCode I J (.int 0 t0) true 0 false true T false) (fun r s' => match r with | .ok (.ret v) => Q v s' | .ok _ => False | .error e => E e s') { s with heap := h', toks := tk }) :
    wpAny (model prog w) A (call (.builtin "math.sumprod") [.ref l, .ref m]) Q E s := by
  refine call_function_tree kind_sumprod plain_sumprod entry_sumprod (args_sumprod _ _) ?_
  show wpAny _ _ (pyIter (.ref l) >>= _) _ _ s
  refine wpAny_bind (wpAny_pyIter_list hl ?_)
  show wpAny _ _ (holding _ (pyIter (.ref m)) >>= _) _ _ _
  refine wpAny_bind (wpAny_holding (wpAny_pyIter_list (hm.push _) ?_))
  show wpAny _ _ (mkInt 0 >>= _) _ _ _
  refine wpAny_bind (wpAny_mkInt ?_)
  show wpAny _ _ (newTuple ([Float64.zero false, Float64.zero false, Float64.zero false].map fun x => rawInt x.toNat) >>= _) _ _ _
  refine wpAny_bind (wpAny_newTuple ?_ (by simp [sizeLine]))
  have l1 := let ⟨_, ho, _⟩ := hl; Heap.lt_size ho
  have l2 := let ⟨_, ho, _⟩ := hm; Heap.lt_size ho
  have none_at : ∀ a, s.heap.objs.size ≤ a → s.heap.get? a = none := fun a ha => by
    cases q : s.heap.get? a with
    | none => rfl
    | some o => exact absurd (Heap.lt_size q) (Nat.not_lt.mpr ha)
  have e1 : ∀ o : Obj, s.heap.objs.size < (s.heap.push o).objs.size := fun o => by rw [Heap.size_push]; exact Nat.lt_succ_self _
  refine wpAny_pure ⟨plainId_quiet plain_sumprod_loop _, h _ _ _ _ _ _ ⟨⟨_, Heap.get?_push_of_some _ (Heap.get?_push_of_some _ (Heap.get?_push_size _ rfl)), rfl, rfl⟩, ⟨_, Heap.get?_push_of_some _ (Heap.get?_push_size _ rfl), rfl, rfl⟩, ((hl.push _).push _).push _, ((hm.push _).push _).push _,
    Nat.ne_of_lt (e1 _), Nat.ne_of_lt l1, Nat.ne_of_lt (Nat.lt_trans l1 (e1 _)), Nat.ne_of_lt l2, Nat.ne_of_lt (Nat.lt_trans l2 (e1 _)), fun b o e => Heap.get?_push_of_some _ (Heap.get?_push_of_some _ (Heap.get?_push_of_some _ e)), none_at _ (Nat.le_refl _), none_at _ (Nat.le_of_lt (e1 _))⟩ (push2_ne _ _ _) (push1_ne _ _) (Heap.get?_push_size _ rfl)⟩

/-- math.sumprod of two lists of ints of one length -/
theorem call_sumprod_ints {E : Value → Shared → Prop} {s : Shared} {l m : Addr} {xs ys : Array Value} {Q : Value → Shared → Prop} {a b : Nat → Int} (hh : A.handled = none) (hl : s.heap.IsList l xs) (hm : s.heap.IsList m ys)
    (hx : IntAt xs xs.size a) (hy : IntAt ys ys.size b) (hsz : xs.size = ys.size) (ok : DotOk a b xs.size)
    (hQ : ∀ h' tk t, Kp s.heap h' → Q (.int (dot a b xs.size) t) { s with heap := h', toks := tk }) :
    wpAny (model prog w) A (call (.builtin "math.sumprod") [.ref l, .ref m]) Q E s := by
  refine sp_start hl hm fun I J T h' t0 tk H hTI hTJ hT => ?_
  refine sp_run xs.size hh hx (by rw [hsz]; exact hy) ok hTI hTJ (s₀ := s) (fun h tk iu hz H' hT' => ?_) _ 0 h' tk false rfl (Nat.zero_le _) (fun _ => rfl) H hT
  refine sp_ints_end (s := { s with heap := h, toks := tk }) hh H' hT' (by simp) (by simp [hsz]) (fun e => by rw [hz e]; rfl) fun h'' tk'' u hk => ?_
  exact hQ h'' tk'' u hk

/-- math.sumprod of two lists of ints of unlike length -/
theorem call_sumprod_unlike {E : Value → Shared → Prop} {s : Shared} {l m : Addr} {xs ys : Array Value} {Q : Value → Shared → Prop} {a b : Nat → Int} {n : Nat} (hh : A.handled = none) (hl : s.heap.IsList l xs) (hm : s.heap.IsList m ys)
    (hx : IntAt xs n a) (hy : IntAt ys n b) (hn : (xs.size = n ∧ n < ys.size) ∨ (ys.size = n ∧ n < xs.size)) (ok : DotOk a b n)
    (hE : ∀ h' tk e, Heap.NewExc s.heap h' e "ValueError" → E (.ref e) { s with heap := h', toks := tk }) :
    wpAny (model prog w) A (call (.builtin "math.sumprod") [.ref l, .ref m]) Q E s := by
  refine sp_start hl hm fun I J T h' t0 tk H hTI hTJ hT => ?_
  refine sp_run n hh hx hy ok hTI hTJ (s₀ := s) (fun h tk iu hz H' hT' => ?_) _ 0 h' tk false rfl (Nat.zero_le _) (fun _ => rfl) H hT
  rcases hn with ⟨h1, h2⟩ | ⟨h1, h2⟩
  · exact sp_short (s := { s with heap := h, toks := tk }) (t0 := 0) hh H' hT' (q := ys[n]) (by simp [h1]) (by simp [h2]) fun h'' tk'' e ne => hE h'' tk'' e ne
  · exact sp_long (s := { s with heap := h, toks := tk }) (t0 := 0) hh H' hT' (p := xs[n]) (by simp [h2]) (by simp [h1]) fun h'' tk'' e ne => hE h'' tk'' e ne

/-- the items from 0 on below n are the floats num / 2^e -/
def FltAt (xs : Array Value) (n : Nat) (num : Nat → Int) (e : Nat) : Prop := ∀ i, i < n → ∃ x t, xs[i]? = some (.float x t) ∧ Is x (num i) e

theorem spf_run {g : Heap} {I J l m : Addr} {xs ys : Array Value} {a b : Nat → Int} {e : Nat} (n : Nat) (hh : A.handled = none) (hx : FltAt xs n a e) (hy : IntAt ys n b) (he : e ≤ 1074) (ok : DotOk a b n) {t0 : Tok} {s₀ : Shared}
    (hR : ∀ h tk T t, T ≠ I → T ≠ J → Two g h I J l m n xs ys → h.get? T = some (threeT t) → Three t (dot a b n) e → codeAny (model prog w) A (spCode I J (.int 0 t0) false 0 false true T true) R { s₀ with heap := h, toks := tk }) :
    ∀ (k i : Nat) (h : Heap) (tk : Nat) (T : Addr) (t : UInt64 × UInt64 × UInt64) (io fu : Bool), n - i = k → i ≤ n → (i = n → io = false ∧ fu = true) → T ≠ I → T ≠ J → Two g h I J l m i xs ys → h.get? T = some (threeT t) → Three t (dot a b i) e →
      codeAny (model prog w) A (spCode I J (.int 0 t0) io 0 false true T fu) R { s₀ with heap := h, toks := tk } := by
  intro k
  induction k with
  | zero =>
    intro i h tk T t io fu hk hi hz hTI hTJ H hT h3
    have : i = n := by omega
    subst this
    obtain ⟨rfl, rfl⟩ := hz rfl
    exact hR h tk T t hTI hTJ H hT h3
  | succ k ih =>
    intro i h tk T t io fu hk hi hz hTI hTJ H hT h3
    have hlt : i < n := by omega
    obtain ⟨x, ta, ea, hxi⟩ := hx i hlt
    obtain ⟨tb, eb⟩ := hy i hlt
    refine sp_floats (s := { s₀ with heap := h, toks := tk }) hh H hT hTI hTJ rfl ea eb hxi he h3 (ok.fb i hlt) (ok.sum i hi) (ok.ab i hlt) (ok.sum (i + 1) hlt) fun h' tk' T' t' H' n1 n2 hT' h3' => ?_
    exact ih (i + 1) h' tk' T' t' false true (by omega) hlt (fun _ => ⟨rfl, rfl⟩) n1 n2 H' hT' h3'

/-- math.sumprod of floats with an int 0 behind them, and ints -/
theorem call_sumprod_floats {E : Value → Shared → Prop} {s : Shared} {l m : Addr} {xs ys : Array Value} {Q : Value → Shared → Prop} {a b : Nat → Int} {e n : Nat} {tz tc : Tok} {c : Int} (hh : A.handled = none) (hl : s.heap.IsList l xs) (hm : s.heap.IsList m ys)
    (hn : 0 < n) (hx : FltAt xs n a e) (hxz : xs[n]? = some (.int 0 tz)) (hxs : xs.size = n + 1) (hy : IntAt ys n b) (hyz : ys[n]? = some (.int c tc)) (hys : ys.size = n + 1) (hc : IntMulOk 0 c) (he : e ≤ 1074) (ok : DotOk a b n)
    (hQ : ∀ h' tk x t, Kp s.heap h' → Is x (dot a b n) e → Q (.float x t) { s with heap := h', toks := tk }) :
    wpAny (model prog w) A (call (.builtin "math.sumprod") [.ref l, .ref m]) Q E s := by
  refine sp_start hl hm fun I J T h' t0 tk H hTI hTJ hT => ?_
  refine spf_run n hh hx hy he ok (s₀ := s) (fun h tk T t n1 n2 H' hT' h3 => ?_) _ 0 h' tk T zero3 true false rfl (Nat.zero_le _) (fun h0 => by omega) hTI hTJ H hT ⟨is_zero false e, is_zero false e, is_zero false e⟩
  refine sp_leave (s := { s with heap := h, toks := tk }) hh H' hT' n1 n2 hxz hyz hc he h3 (ok.sum n (Nat.le_refl _)) (by simp) (by simpa using ok.sum n (Nat.le_refl _)) fun h2 tk2 x u H2 hT2 hx2 => ?_
  refine sp_end (s := { s with heap := h2, toks := tk2 }) (t0 := 0) hh H2 hT2 (by simp [hxs]) (by simp [hys]) fun h3 tk3 hk => ?_
  exact hQ h3 tk3 x u hk (hx2.cast (by simp))
end
end Mine
namespace Mine
open PySem PySem.W PySem.Spec PySem.Calls PyProof.Rows
/-- what a call leaves as it was found -/
abbrev After (s : Shared) (R : Value → Heap → Prop) (Q : Value → Shared → Prop) : Prop := ∀ v h' tk, Kp s.heap h' → R v h' → Q v { s with heap := h', toks := tk }

section
variable {prog : Program} {w : World} {A : Around} {E : Value → Shared → Prop} {s : Shared} {K : Frag} {mg mb : Str → Option Value} {p : Program} {loose : List Str}
  {Q : Value → Shared → Prop} {name qual : Str} {params : Arguments} {body : List Stmt} {scope : Scope} {dV kV doc pm cdv ct oc : Value} {an od : Option Addr} {osl : Array (Option Value)} {f : Addr} {args : List Value} {kw : List (Str × Value)} {binds : List (Str × Value)}

/-- a plain def of the text, called: its body is run in a new frame -/
theorem call_fn (X : K.In s.heap) (T : TopRead p loose mg mb s.heap)
    (ho : K.lookup f = some ⟨oc, od, .func (fnOf name qual params body scope dV kV doc pm an cdv ct), osl⟩) (hcd : codeIn K cdv qual = true) (hroom : A.depth < recursionLimit)
    (hbind : BindsTo s (fnOf name qual params body scope dV kV doc pm an cdv ct) ⟨args, kw⟩ binds) (hloc : ∀ y ∈ binds, scope.names.lookup y.1 = some .local)
    (hcell : ∀ x ∈ scope.names, x.2 ≠ .cell)
    (h : ∀ L h₁, Fr s.heap L h₁ (fun y => binds.reverse.lookup y) → News s.heap L h₁ [] → K.In s.heap → TopRead p loose mg mb s.heap →
      wpAny (model prog w) (A.deeper (envOf qual scope L f cdv)) (execs body (envOf qual scope L f cdv))
        (fun fl s' => Q (match fl with | .ret v => v | _ => .none) s') (fun _ _ => False) { s with heap := h₁, toks := s.toks + binds.length })
    (hco : scope.isCoroutine = false := by rfl) (hgen : scope.isGenerator = false := by rfl) (hk : scope.kind = .function := by rfl) :
    wpAny (model prog w) A (call (.ref f) args kw) Q E s := by
  refine wpAny_call (codeAny_call_def (fd := fnOf name qual params body scope dV kV doc pm an cdv ct) (body := body) (binds := binds) hroom (X _ _ ho) rfl T.nolimit (codeRec_of X hcd) rfl hbind hcell hloc (fun h₁ hns hk₁ => ?_) hco hgen hk)
  exact wpAny_mono (h s.heap.objs.size h₁ ⟨hns, hk₁, Nat.le_refl _⟩ News.nil X T) (fun _ _ x => x) (fun _ _ x => x.elim)
end

/-- a map of names, the first ones told -/
def over (l : List (Str × Value)) (m : Str → Option Value) : Str → Option Value := fun y => match l.lookup y with | some v => some v | none => m y
def Told (m : Str → Option Value) : List (Str × Value) → Prop
  | [] => True
  | q :: r => m q.1 = some q.2 ∧ Told m r
theorem told_of {m : Str → Option Value} {y : Str} {v : Value} : ∀ {l : List (Str × Value)}, Told m l → l.lookup y = some v → m y = some v
  | [], _, e => by cases e
  | q :: r, h, e => by
    rw [List.lookup_cons] at e
    cases hb : y == q.1 with
    | true => rw [hb] at e; cases e; rw [eq_of_beq hb]; exact h.1
    | false => rw [hb] at e; exact told_of h.2 e
theorem over_eq {m : Str → Option Value} {l : List (Str × Value)} (h : Told m l) : over l m = m := by
  funext y
  unfold over
  cases e : l.lookup y with
  | none => rfl
  | some v => exact (told_of h e).symm
theorem fr_over {h₀ h : Heap} {L : Addr} {m : Str → Option Value} (l : List (Str × Value)) (F : Fr h₀ L h m) (ht : Told m l) : Fr h₀ L h (over l m) := by rw [over_eq ht]; exact F
end Mine
namespace Mine
open PySem PySem.W PySem.Spec PySem.Calls PyProof.Rows
theorem getD_left {α : Type} (l : List α) (x d : α) {j : Nat} (h : j < l.length) : (l ++ [x]).getD j d = l.getD j d := by
  simp only [List.getD_eq_getElem?_getD, List.getElem?_append_left h]
theorem getD_last {α : Type} (l : List α) (x d : α) {j : Nat} (h : l.length = j) : (l ++ [x]).getD j d = x := by
  subst h
  simp [List.getD_eq_getElem?_getD]
abbrev Own := List (Addr × Obj)
/-- what a turn has made stands, and was not there before -/
def Made (h₀ h : Heap) (own : Own) : Prop := ∀ p ∈ own, h₀.get? p.1 = none ∧ h.get? p.1 = some p.2
theorem Made.nil {h₀ h : Heap} : Made h₀ h [] := fun _ hp => nomatch hp
theorem Made.after {h₀ h h' : Heap} {own : Own} (x : Made h₀ h own) (k : Kp h h') : Made h₀ h' own := fun p hp => ⟨(x p hp).1, k _ _ (x p hp).2⟩
theorem Made.before {g h₀ h : Heap} {own : Own} (x : Made h₀ h own) (k : Kp g h₀) : Made g h own := fun p hp => ⟨none_of_kp k (x p hp).1, (x p hp).2⟩

section
variable {prog : Program} {w : World} {A : Around} {E : Value → Shared → Prop} {env : Env}

/-- the element, at any turn: it changes nothing and makes what it makes -/
def EltOk (prog : Program) (w : World) (A : Around) (cenv : Addr → Env) (x : Str) (elt : Expr) (wr : List Addr) (n : Nat) (P : Nat → Value → Prop) (F : Nat → Value → Value → Own → Prop) (s₂ : Shared) : Prop :=
  ∀ C i v h₃ tk₃ m₃ E', s₂.heap.objs.size ≤ C → i < n → P i v → h₃.Ns C m₃ → m₃ x = some v → (∀ b o, b ∉ wr → s₂.heap.get? b = some o → h₃.get? b = some o) →
    wpAny (model prog w) A (eval elt (cenv C)) (fun y s₄ => ∃ h₄ tk₄ own, s₄ = { s₂ with heap := h₄, toks := tk₄ } ∧ Kp h₃ h₄ ∧ F i v y own ∧ Made h₃ h₄ own) E' { s₂ with heap := h₃, toks := tk₃ }

/-- what stands behind a comprehension -/
structure Rows (P : Nat → Value → Prop) (F : Nat → Value → Value → Own → Prop) (g h : Heap) (n : Nat) (ys : List Value) (owns : List Own) : Prop where
  len : ys.length = n
  lenO : owns.length = n
  rel : ∀ j, j < n → ∃ v, P j v ∧ F j v (ys.getD j .none) (owns.getD j [])
  made : ∀ ow ∈ owns, Made g h ow

theorem compLoop_own {elt iter : Expr} {x : Str} {px : Pos} {scope : Scope} {pos : Pos} {I D : Addr} {fp wr : List Addr} {n : Nat} {P : Nat → Value → Prop} {St : Nat → Heap → Prop} {R : Result → Shared → Prop} {s : Shared}
    {cenv : Env} {m : Str → Option Value} (W : Walks prog w A I fp wr n P St) (hwr : ∀ i h, St i h → ∀ b ∈ wr, h.get? b ≠ none) (F : Nat → Value → Value → Own → Prop)
    (hx : cenv.kindOf x = some .local) (hp : (cenv.scope.kind == .class || (cenv.scope.kind == .module && cenv.locals != cenv.globals)) = false)
    (hDC : D ≠ cenv.locals) (hDf : D ∉ fp) (hCf : cenv.locals ∉ fp)
    (hst : St 0 s.heap) (hacc : s.heap.PlainList D #[]) (hn : s.heap.Ns cenv.locals m)
    (helt : ∀ i v h₂ tk₂ m₂, i < n → P i v → h₂.Ns cenv.locals m₂ → m₂ x = some v → (∀ b o, b ≠ cenv.locals → b ∉ wr → b ≠ D → s.heap.get? b = some o → h₂.get? b = some o) →
      wpAny (model prog w) A (eval elt cenv) (fun y s₃ => ∃ h₃ tk₃ own, s₃ = { s with heap := h₃, toks := tk₃ } ∧ Kp h₂ h₃ ∧ F i v y own ∧ Made h₂ h₃ own) (notedBy (model prog w) A cenv fun e s' => R (.error e) s') { s with heap := h₂, toks := tk₂ })
    (hR : ∀ h' tk m' ys owns, h'.Ns cenv.locals m' → h'.PlainList D ys.toArray → Rows P F s.heap h' n ys owns → (∀ ow ∈ owns, ∀ q ∈ ow, q.1 ≠ D ∧ q.1 ≠ cenv.locals) →
      (∀ b o, b ≠ cenv.locals → b ∉ wr → b ≠ D → s.heap.get? b = some o → h'.get? b = some o) → R (.ok .next) { s with heap := h', toks := tk })
    (hsz : n ≤ sizeLine) :
    codeAny (model prog w) A (.compLoop (.ListComp elt [⟨.Name x px, iter, [], 0⟩] scope pos) 0 (.ref I) (.ref D) cenv) R s := by
  have hCw : cenv.locals ∉ wr := fun h => hCf (W.sub _ h)
  have hDw : D ∉ wr := fun h => hDf (W.sub _ h)
  refine codeAny_compLoop_list
    (fun k s' => ∃ h' tk m' ys owns, s' = { s with heap := h', toks := tk } ∧ St ys.length h' ∧ h'.PlainList D ys.toArray ∧ h'.Ns cenv.locals m' ∧ Rows P F s.heap h' ys.length ys owns ∧
      (∀ ow ∈ owns, ∀ q ∈ ow, q.1 ∉ wr ∧ q.1 ≠ D ∧ q.1 ≠ cenv.locals) ∧ ys.length ≤ n ∧ k = n + 1 - ys.length ∧
      (∀ b o, b ≠ cenv.locals → b ∉ wr → b ≠ D → s.heap.get? b = some o → h'.get? b = some o)) ?_ (n + 1)
    ⟨s.heap, s.toks, m, [], [], rfl, hst, hacc, hn, ⟨rfl, rfl, (fun j hj => absurd hj (Nat.not_lt_zero _)), (fun _ h => nomatch h)⟩, (fun _ h => nomatch h), Nat.zero_le _, rfl, fun _ _ _ _ _ e => e⟩
  rintro k s' ⟨H, tk, m', ys, owns, rfl, hst', hacc', hn', hrow, hoff, hle, rfl, hk⟩
  by_cases hlt : ys.length < n
  · refine W.item ys.length _ _ _ hlt hst' fun v h₁ tk₁ hPv hst₁ hk₁ => ?_
    refine wpAny_assign_Name (wpAny_storeName_local hx (hn'.at' fun o e => hk₁ _ o hCw e) (fun h₂ hn₂ hs₂ => ?_) hp)
    have up₂ : ∀ b o, b ≠ cenv.locals → b ∉ wr → H.get? b = some o → h₂.get? b = some o := fun b o hbC hbf e => hs₂.extBut b o hbC (hk₁ b o hbf e)
    have hst₂ : St (ys.length + 1) h₂ := W.frame _ _ _ hst₁ fun b hb o e => hs₂.extBut b o (fun h => hCf (h ▸ hb)) e
    have hacc₂ : h₂.PlainList D ys.toArray := hacc'.at fun o e => up₂ D o hDC hDw e
    refine wpAny_mono (helt ys.length v h₂ _ _ hlt hPv hn₂ (by simp) (fun b o hbC hbf hbD e => up₂ b o hbC hbf (hk b o hbC hbf hbD e))) (fun y s₃ h₃ => ?_) fun _ _ e => e
    obtain ⟨h₃, tk₃, own, rfl, hk₃, hF, hmade⟩ := h₃
    have hst₃ : St (ys.length + 1) h₃ := W.frame _ _ _ hst₂ fun b _ o e => hk₃ b o e
    have hacc₃ : h₃.PlainList D ys.toArray := hacc₂.at fun o e => hk₃ _ o e
    have hn₃ := hn₂.keeps hk₃
    refine wpAny_list_append_plain (hsz := by simp; omega) hacc₃ fun h₅ hl₅ hs₅ => ?_
    have hown : ∀ q ∈ own, q.1 ∉ wr ∧ q.1 ≠ D ∧ q.1 ≠ cenv.locals := fun q hq => by
      have e := (hmade q hq).1
      refine ⟨fun hm => hwr _ _ hst₂ _ hm e, fun h => ?_, fun h => ?_⟩
      · obtain ⟨c, hc⟩ := hacc₂; rw [h, hc] at e; cases e
      · obtain ⟨o, _, _, ho, _⟩ := hn₂; rw [h, ho] at e; cases e
    have up₅ : ∀ b o, b ≠ cenv.locals → b ∉ wr → b ≠ D → H.get? b = some o → h₅.get? b = some o := fun b o hbC hbf hbD e => hs₅.extBut b o hbD (hk₃ b o (up₂ b o hbC hbf e))
    refine ⟨n + 1 - (ys.length + 1), by omega, h₅, tk₃, _, ys ++ [y], owns ++ [own], rfl, ?_, by simpa using hl₅, hn₃.sameBut hs₅ (Ne.symm hDC), ⟨rfl, by simp [hrow.lenO], ?_, ?_⟩, ?_, by simp; omega, by simp, ?_⟩
    · have := W.frame _ _ h₅ hst₃ fun b hb o e => hs₅.extBut b o (fun h => hDf (h ▸ hb)) e
      simpa using this
    · intro j hj
      have hlo := hrow.lenO
      rcases Nat.lt_or_ge j ys.length with h | h
      · obtain ⟨u, hu, hF'⟩ := hrow.rel j h
        refine ⟨u, hu, ?_⟩
        rw [getD_left _ _ _ h, getD_left _ _ _ (by omega)]
        exact hF'
      · have : j = ys.length := by simp at hj; omega
        subst this
        refine ⟨v, hPv, ?_⟩
        rw [getD_last _ _ _ rfl, getD_last _ _ _ hlo]
        exact hF
    · intro ow how
      rcases List.mem_append.mp how with h | h
      · intro q hq
        have hq' := hoff ow h q hq
        exact ⟨(hrow.made ow h q hq).1, up₅ _ _ hq'.2.2 hq'.1 hq'.2.1 (hrow.made ow h q hq).2⟩
      · rw [List.mem_singleton] at h
        subst h
        intro q hq
        refine ⟨?_, hs₅.extBut _ _ (hown q hq).2.1 (hmade q hq).2⟩
        cases e : s.heap.get? q.1 with
        | none => rfl
        | some o =>
          have := up₂ q.1 o (hown q hq).2.2 (hown q hq).1 (hk _ _ (hown q hq).2.2 (hown q hq).1 (hown q hq).2.1 e)
          rw [(hmade q hq).1] at this; cases this
    · intro ow how q hq
      rcases List.mem_append.mp how with h | h
      · exact hoff ow h q hq
      · rw [List.mem_singleton] at h
        subst h
        exact hown q hq
    · exact fun b o hbC hbf hbD e => up₅ b o hbC hbf hbD (hk b o hbC hbf hbD e)
  · have hin : ys.length = n := by omega
    refine W.done _ _ _ (hin ▸ hst') fun h₁ tk₁ hk₁ => ?_
    refine hR h₁ tk₁ m' ys owns (hn'.at' fun o e => hk₁ _ o hCw e) (hacc'.at fun o e => hk₁ _ o hDw e) ⟨hin, by rw [hrow.lenO, hin], by rw [← hin]; exact hrow.rel, fun ow how q hq => ⟨(hrow.made ow how q hq).1, hk₁ _ _ (hoff ow how q hq).1 (hrow.made ow how q hq).2⟩⟩
      (fun ow how q hq => (hoff ow how q hq).2) fun b o hbC hbf hbD e => hk₁ b o hbf (hk b o hbC hbf hbD e)

theorem comp_block {elt iter : Expr} {x : Str} {px : Pos} {scope : Scope} {cl : List (Str × Addr)} {pos : Pos} {s₂ : Shared} {I : Addr} {fp wr : List Addr} {n : Nat} {P : Nat → Value → Prop}
    {St : Nat → Heap → Prop} (W : Walks prog w A I fp wr n P St) (hwr : ∀ i h, St i h → ∀ b ∈ wr, h.get? b ≠ none) (hsz : n ≤ sizeLine) (F : Nat → Value → Value → Own → Prop) {RR : Value → Addr → Result → Shared → Prop}
    (hcell : ∀ y ∈ scope.names, y.2 ≠ .cell) (hkind : scope.kind = .function) (hx : scope.names.lookup x = some .local) (hst : St 0 s₂.heap) (hfp : ∀ b ∈ fp, b < s₂.heap.objs.size)
    (hq : EltOk prog w A (fun C => compEnvC scope cl C env) x elt wr n P F s₂)
    (hRR : ∀ D C h' tk m' ys owns, s₂.heap.get? D = none → s₂.heap.get? C = none → D ≠ C → h'.Ns C m' → h'.PlainList D ys.toArray → Rows P F s₂.heap h' n ys owns → (∀ ow ∈ owns, ∀ q ∈ ow, q.1 ≠ D ∧ q.1 ≠ C) →
      (∀ b o, b ∉ wr → s₂.heap.get? b = some o → h'.get? b = some o) → RR (.ref D) C (.ok .next) { s₂ with heap := h', toks := tk }) :
    wpAny (model prog w) A (newList []) (fun acc s₃ => wpAny (model prog w) A (newFunctionEnv scope env.globals cl [] env.qual none .none (some env)) (fun cenv s₄ =>
      codeAny (model prog w) A (.compStart (.ListComp elt [⟨.Name x px, iter, [], 0⟩] scope pos) 0 (.ref I) acc { cenv with scope := relabel scope env }) (RR acc cenv.locals) s₄) E s₃) E s₂ := by
  refine wpAny_newObj_type (wpAny_newFunctionEnv hcell (by intro y hy; simp at hy) (fun h₁ hns₁ hsb₁ => ?_) hkind)
  dsimp only at hns₁ hsb₁ ⊢
  generalize hH2 : s₂.heap.push { cls := .type "list", dict := none, data := .seq ([] : List Value).toArray } = H2 at hns₁ hsb₁ ⊢
  have hC : H2.objs.size = s₂.heap.objs.size + 1 := by rw [← hH2, Heap.size_push]
  have hDC : s₂.heap.objs.size ≠ H2.objs.size := by rw [hC]; exact Nat.ne_of_lt (Nat.lt_succ_self _)
  have hCle : s₂.heap.objs.size ≤ H2.objs.size := by rw [hC]; exact Nat.le_succ _
  have below : ∀ b, b < s₂.heap.objs.size → b ≠ H2.objs.size ∧ b ≠ s₂.heap.objs.size := fun b hb => ⟨by rw [hC]; exact Nat.ne_of_lt (Nat.lt_succ_of_lt hb), Nat.ne_of_lt hb⟩
  have hDf : s₂.heap.objs.size ∉ fp := fun hm => Nat.lt_irrefl _ (hfp _ hm)
  have hCf : H2.objs.size ∉ fp := fun hm => by have := hfp _ hm; rw [hC] at this; exact Nat.lt_irrefl _ (Nat.lt_of_succ_lt this)
  have old : ∀ b o, s₂.heap.get? b = some o → h₁.get? b = some o := fun b o e => hsb₁.extBut b o (below b (Heap.lt_size e)).1 (Heap.get?_push_of_some _ (hH2 ▸ Heap.get?_push_of_some _ e))
  have hacc : h₁.PlainList s₂.heap.objs.size #[] := ⟨_, hsb₁.extBut _ _ hDC (Heap.get?_push_of_some _ (hH2 ▸ Heap.get?_push_size _ rfl))⟩
  have hst₁ : St 0 h₁ := W.frame _ _ _ hst fun b _ o e => old b o e
  have fresh : ∀ a, s₂.heap.objs.size ≤ a → s₂.heap.get? a = none := fun a ha => by
    cases e : s₂.heap.get? a with
    | none => rfl
    | some o' => exact absurd (Heap.lt_size e) (Nat.not_lt.mpr ha)
  have loop : ∀ s₃ : Shared, s₃ = { s₂ with heap := h₁, toks := s₂.toks + ([] : List (Str × Value)).length } →
      codeAny (model prog w) A (.compLoop (.ListComp elt [⟨.Name x px, iter, [], 0⟩] scope pos) 0 (.ref I) (.ref s₂.heap.objs.size) (compEnvC scope cl H2.objs.size env))
        (RR (.ref s₂.heap.objs.size) H2.objs.size) s₃ := by
    rintro s₃ rfl
    refine compLoop_own (cenv := compEnvC scope cl H2.objs.size env) W hwr F (lookup_relabel_local hx) (by simp [compEnvC, relabel, hkind]) hDC hDf hCf hst₁ hacc hns₁
      (fun i v h₃ tk₃ m₃ hi hv hn hm hk => hq _ i v h₃ tk₃ m₃ _ hCle hi hv hn hm (fun b o hbf e => hk b o (below b (Heap.lt_size e)).1 hbf (below b (Heap.lt_size e)).2 (old b o e)))
      (fun h' tk m' ys owns hn hpl hrow hoff hk => ?_) hsz
    exact hRR _ _ h' tk m' ys owns (fresh _ (Nat.le_refl _)) (fresh _ (by rw [hC]; exact Nat.le_succ _)) hDC hn hpl { hrow with made := fun ow how => (hrow.made ow how).before old } hoff fun b o hbf e =>
      hk b o (below b (Heap.lt_size e)).1 hbf (below b (Heap.lt_size e)).2 (old b o e)
  exact codeAny_compStart_list (loop _ rfl) (W.self 0 _ _ _ hst₁ (loop _ rfl))

/-- [elt for x in iter], x a name of the comprehension's own, in any place of an expression -/
theorem comp_own {s : Shared} {elt iter : Expr} {x : Str} {px : Pos} {scope : Scope} {cl : List (Str × Addr)} {pos : Pos} {Q : Value → Shared → Prop} (F : Nat → Value → Value → Own → Prop)
    (hclos : closureFor scope env = pure cl) (hcell : ∀ y ∈ scope.names, y.2 ≠ .cell) (hkind : scope.kind = .function)
    (hnames : ∀ y ∈ scope.names, y.2 = .local → scope.names.lookup y.1 = some .local) (hx : scope.names.lookup x = some .local)
    (h : wpAny (model prog w) A (eval iter env) (fun xv s₁ => wpAny (model prog w) A (pyIter xv) (fun it s₂ => ∃ I fp wr n P St, it = .ref I ∧ Walks prog w A I fp wr n P St ∧ (∀ i h, St i h → ∀ b ∈ wr, h.get? b ≠ none) ∧ n ≤ sizeLine ∧ St 0 s₂.heap ∧ (∀ b ∈ fp, b < s₂.heap.objs.size) ∧
      EltOk prog w A (fun C => compEnvC scope cl C env) x elt wr n P F s₂ ∧
      (∀ D h' tk ys owns, s₂.heap.get? D = none → h'.PlainList D ys.toArray → Rows P F s₂.heap h' n ys owns → (∀ ow ∈ owns, ∀ q ∈ ow, q.1 ≠ D) → (∀ b o, b ∉ wr → s₂.heap.get? b = some o → h'.get? b = some o) → Q (.ref D) { s₂ with heap := h', toks := tk })) E s₁) E s)
    (hs : ∀ x, foldedSetIterable iter env x = pure x := by intro _; rfl) :
    wpAny (model prog w) A (eval (.ListComp elt [⟨.Name x px, iter, [], 0⟩] scope pos) env) Q E s := by
  rw [eval_ListComp]
  refine wpAny_comprehension_free (use := none) rfl hs hclos hkind hnames (wpAny_mono h (fun xv s₁ h₁ => wpAny_mono h₁ (fun it s₂ h₂ => ?_) fun _ _ e => e) fun _ _ e => e)
  obtain ⟨I, fp, wr, n, P, St, rfl, W, hwr, hsz, hst, hfp, hq, hQ⟩ := h₂
  refine comp_block (RR := fun acc C => compPost (model prog w) A E none Q acc C) W hwr hsz F hcell hkind hx hst hfp hq ?_
  intro D C h' tk m' ys owns hD hC hDC hn hpl hrow hoff hk
  refine ⟨m', hn, fun h'' hs'' => hQ D h'' tk ys owns hD (hpl.at fun o e => hs''.extBut _ _ hDC e) { hrow with made := fun ow how q hq => ⟨(hrow.made ow how q hq).1, hs''.extBut _ _ (hoff ow how q hq).2 (hrow.made ow how q hq).2⟩ } (fun ow how q hq => (hoff ow how q hq).1) fun b o hbf e => ?_⟩
  exact hs''.extBut b o (by rintro rfl; rw [hC] at e; cases e) (hk b o hbf e)

/-- y = [elt for x in iter], y a plain local name -/
theorem comp_own_assign {s : Shared} {elt iter : Expr} {x y : Str} {px py : Pos} {scope : Scope} {cl : List (Str × Addr)} {pos spos : Pos} {Q : Flow → Shared → Prop} (F : Nat → Value → Value → Own → Prop)
    (hsw : swapsWith (.ListComp elt [⟨.Name x px, iter, [], 0⟩] scope pos) (some (.Name y py)) spos.line env = pure true)
    (hclos : closureFor scope env = pure cl) (hcell : ∀ y ∈ scope.names, y.2 ≠ .cell) (hkind : scope.kind = .function)
    (hnames : ∀ y ∈ scope.names, y.2 = .local → scope.names.lookup y.1 = some .local) (hx : scope.names.lookup x = some .local)
    (hy : env.kindOf y = some .local) (hp : (env.scope.kind == .class || (env.scope.kind == .module && env.locals != env.globals)) = false)
    (h : wpAny (model prog w) A (eval iter env) (fun xv s₁ => wpAny (model prog w) A (pyIter xv) (fun it s₂ => ∃ I fp wr n P St m, it = .ref I ∧ Walks prog w A I fp wr n P St ∧ (∀ i h, St i h → ∀ b ∈ wr, h.get? b ≠ none) ∧ n ≤ sizeLine ∧ St 0 s₂.heap ∧ (∀ b ∈ fp, b < s₂.heap.objs.size) ∧
      env.locals ∉ wr ∧ s₂.heap.Ns env.locals m ∧ EltOk prog w A (fun C => compEnvC scope cl C env) x elt wr n P F s₂ ∧
      (∀ D h' tk ys owns, s₂.heap.get? D = none → h'.PlainList D ys.toArray → Rows P F s₂.heap h' n ys owns → (∀ ow ∈ owns, ∀ q ∈ ow, q.1 ≠ D) →
        h'.Ns env.locals (fun z => if z = y then some (.ref D) else m z) → (∀ b o, b ≠ env.locals → b ∉ wr → s₂.heap.get? b = some o → h'.get? b = some o) → Q .next { s₂ with heap := h', toks := tk })) E s₁) E s)
    (hs : ∀ x, foldedSetIterable iter env x = pure x := by intro _; rfl) :
    wpAny (model prog w) A (exec (.Assign [.Name y py] (.ListComp elt [⟨.Name x px, iter, [], 0⟩] scope pos) spos) env) Q E s := by
  rw [exec_Assign_Name_used _ _ _ _ hsw]
  refine wpAny_bind (wpAny_standAt (wpAny_bind ?_))
  show wpAny _ A (do let _ ← comprehension (.ListComp elt [⟨.Name x px, iter, [], 0⟩] scope pos) scope env _ (newList []) false (eval iter env) (some (assign (.Name y py) env))) _ _ s
  refine wpAny_bind (wpAny_mono (wpAny_comprehension_free (use := some (assign (.Name y py) env)) (Q := fun _ s' => Q .next s') rfl hs hclos hkind hnames
    (wpAny_mono h (fun xv s₁ h₁ => wpAny_mono h₁ (fun it s₂ h₂ => ?_) fun _ _ e => e) fun _ _ e => e)) (fun _ s' hq => wpAny_pure (wpAny_pure hq)) fun _ _ e => e)
  obtain ⟨I, fp, wr, n, P, St, m, rfl, W, hwr, hsz, hst, hfp, hLf, hn, hq, hQ⟩ := h₂
  refine comp_block (RR := fun acc C => compPost (model prog w) A E (some (assign (.Name y py) env)) (fun _ s' => Q .next s') acc C) W hwr hsz F hcell hkind hx hst hfp hq ?_
  intro D C h' tk m' ys owns hD hC hDC hnC hplD hrow hoff hk
  have hLC : env.locals ≠ C := by rintro rfl; obtain ⟨o, _, _, ho, _⟩ := hn; rw [hC] at ho; cases ho
  have hLD : env.locals ≠ D := by rintro rfl; obtain ⟨o, _, _, ho, _⟩ := hn; rw [hD] at ho; cases ho
  have hLo : ∀ ow ∈ owns, ∀ q ∈ ow, q.1 ≠ env.locals := fun ow how q hq e => by
    obtain ⟨o, _, _, ho, _⟩ := hn
    have := (hrow.made ow how q hq).1
    rw [e, ho] at this; cases this
  show wpAny _ A (assign (.Name y py) env (.ref D)) _ _ _
  refine wpAny_assign_Name (wpAny_storeName_local hy (hn.at' fun o e => hk _ o hLf e) (fun h₂ hn₂ hs₂ => ?_) hp)
  refine ⟨m', hnC.sameBut hs₂ (Ne.symm hLC), fun h₃ hs₃ => ?_⟩
  refine hQ D h₃ _ ys owns hD ((hplD.at fun o e => hs₂.extBut _ _ (Ne.symm hLD) e).at fun o e => hs₃.extBut _ _ hDC e)
    { hrow with made := fun ow how q hq => ⟨(hrow.made ow how q hq).1, hs₃.extBut _ _ (hoff ow how q hq).2 (hs₂.extBut _ _ (hLo ow how q hq) (hrow.made ow how q hq).2)⟩ }
    (fun ow how q hq => (hoff ow how q hq).1) (hn₂.sameBut hs₃ hLC) fun b o hbL hbf e => ?_
  exact hs₃.extBut b o (by rintro rfl; rw [hC] at e; cases e) (hs₂.extBut b o hbL (hk b o hbf e))
end
end Mine
namespace Mine
open PySem PySem.W PySem.Spec PySem.Calls PyProof.Rows
section
variable {prog : Program} {w : World} {A : Around} {E : Value → Shared → Prop} {env : Env}

def EltOkC (prog : Program) (w : World) (A : Around) (cenv : Addr → Env) (elt : Expr) (wr : List Addr) (n : Nat) (P : Nat → Value → Prop) (F : Nat → Value → Value → Own → Prop) (s₂ : Shared) : Prop :=
  ∀ C i v h₃ tk₃ m₃ E', s₂.heap.objs.size ≤ C → i < n → P i v → h₃.Ns C m₃ → h₃.IsCell (C + 1) (some v) → (∀ b o, b ∉ wr → s₂.heap.get? b = some o → h₃.get? b = some o) →
    wpAny (model prog w) A (eval elt (cenv C)) (fun y s₄ => ∃ h₄ tk₄ own, s₄ = { s₂ with heap := h₄, toks := tk₄ } ∧ Kp h₃ h₄ ∧ F i v y own ∧ Made h₃ h₄ own) E' { s₂ with heap := h₃, toks := tk₃ }

theorem isCell_at {h h' : Heap} {c : Addr} {v : Option Value} (x : h.IsCell c v) (e : ∀ o, h.get? c = some o → h'.get? c = some o) : h'.IsCell c v := let ⟨o, ho, r⟩ := x; ⟨o, e o ho, r⟩

theorem compLoop_cell {elt iter : Expr} {x : Str} {px : Pos} {scope : Scope} {pos : Pos} {I D c : Addr} {fp wr : List Addr} {n : Nat} {P : Nat → Value → Prop} {St : Nat → Heap → Prop} {R : Result → Shared → Prop} {s : Shared}
    {cenv : Env} {m : Str → Option Value} {v₀ : Option Value} (W : Walks prog w A I fp wr n P St) (hwr : ∀ i h, St i h → ∀ b ∈ wr, h.get? b ≠ none) (F : Nat → Value → Value → Own → Prop)
    (hx : cenv.kindOf x = some .cell) (hkind : cenv.scope.kind = .function) (hc : cenv.cells.lookup x = some c)
    (hDC : D ≠ c) (hDf : D ∉ fp) (hCf : c ∉ fp) (hLf : cenv.locals ∉ fp) (hLc : cenv.locals ≠ c) (hLD : cenv.locals ≠ D)
    (hst : St 0 s.heap) (hacc : s.heap.PlainList D #[]) (hn : s.heap.Ns cenv.locals m) (hcl : s.heap.IsCell c v₀)
    (helt : ∀ i v h₂ tk₂ m₂, i < n → P i v → h₂.Ns cenv.locals m₂ → h₂.IsCell c (some v) → (∀ b o, b ≠ c → b ∉ wr → b ≠ D → s.heap.get? b = some o → h₂.get? b = some o) →
      wpAny (model prog w) A (eval elt cenv) (fun y s₃ => ∃ h₃ tk₃ own, s₃ = { s with heap := h₃, toks := tk₃ } ∧ Kp h₂ h₃ ∧ F i v y own ∧ Made h₂ h₃ own) (notedBy (model prog w) A cenv fun e s' => R (.error e) s') { s with heap := h₂, toks := tk₂ })
    (hR : ∀ h' tk m' ys owns, h'.Ns cenv.locals m' → h'.PlainList D ys.toArray → Rows P F s.heap h' n ys owns → (∀ ow ∈ owns, ∀ q ∈ ow, q.1 ≠ D ∧ q.1 ≠ c ∧ q.1 ≠ cenv.locals) →
      (∀ b o, b ≠ c → b ∉ wr → b ≠ D → s.heap.get? b = some o → h'.get? b = some o) → R (.ok .next) { s with heap := h', toks := tk })
    (hsz : n ≤ sizeLine) :
    codeAny (model prog w) A (.compLoop (.ListComp elt [⟨.Name x px, iter, [], 0⟩] scope pos) 0 (.ref I) (.ref D) cenv) R s := by
  have hCw : c ∉ wr := fun h => hCf (W.sub _ h)
  have hDw : D ∉ wr := fun h => hDf (W.sub _ h)
  have hLw : cenv.locals ∉ wr := fun h => hLf (W.sub _ h)
  refine codeAny_compLoop_list
    (fun k s' => ∃ h' tk m' v' ys owns, s' = { s with heap := h', toks := tk } ∧ St ys.length h' ∧ h'.PlainList D ys.toArray ∧ h'.Ns cenv.locals m' ∧ h'.IsCell c v' ∧ Rows P F s.heap h' ys.length ys owns ∧
      (∀ ow ∈ owns, ∀ q ∈ ow, q.1 ∉ wr ∧ q.1 ≠ D ∧ q.1 ≠ c ∧ q.1 ≠ cenv.locals) ∧ ys.length ≤ n ∧ k = n + 1 - ys.length ∧
      (∀ b o, b ≠ c → b ∉ wr → b ≠ D → s.heap.get? b = some o → h'.get? b = some o)) ?_ (n + 1)
    ⟨s.heap, s.toks, m, v₀, [], [], rfl, hst, hacc, hn, hcl, ⟨rfl, rfl, (fun j hj => absurd hj (Nat.not_lt_zero _)), (fun _ h => nomatch h)⟩, (fun _ h => nomatch h), Nat.zero_le _, rfl, fun _ _ _ _ _ e => e⟩
  rintro k s' ⟨H, tk, m', v', ys, owns, rfl, hst', hacc', hn', hcl', hrow, hoff, hle, rfl, hk⟩
  by_cases hlt : ys.length < n
  · refine W.item ys.length _ _ _ hlt hst' fun v h₁ tk₁ hPv hst₁ hk₁ => ?_
    refine wpAny_assign_Name (wpAny_storeName_cell hkind hx hc (isCell_at hcl' fun o e => hk₁ _ o hCw e) (fun h₂ hn₂ hs₂ => ?_))
    have up₂ : ∀ b o, b ≠ c → b ∉ wr → H.get? b = some o → h₂.get? b = some o := fun b o hbC hbf e => hs₂.extBut b o hbC (hk₁ b o hbf e)
    have hst₂ : St (ys.length + 1) h₂ := W.frame _ _ _ hst₁ fun b hb o e => hs₂.extBut b o (fun h => hCf (h ▸ hb)) e
    have hacc₂ : h₂.PlainList D ys.toArray := hacc'.at fun o e => up₂ D o hDC hDw e
    have hL₂ : h₂.Ns cenv.locals m' := hn'.at' fun o e => up₂ _ o hLc hLw e
    refine wpAny_mono (helt ys.length v h₂ _ _ hlt hPv hL₂ hn₂ (fun b o hbC hbf hbD e => up₂ b o hbC hbf (hk b o hbC hbf hbD e))) (fun y s₃ h₃ => ?_) fun _ _ e => e
    obtain ⟨h₃, tk₃, own, rfl, hk₃, hF, hmade⟩ := h₃
    have hst₃ : St (ys.length + 1) h₃ := W.frame _ _ _ hst₂ fun b _ o e => hk₃ b o e
    have hacc₃ : h₃.PlainList D ys.toArray := hacc₂.at fun o e => hk₃ _ o e
    have hn₃ := hL₂.keeps hk₃
    refine wpAny_list_append_plain (hsz := by simp; omega) hacc₃ fun h₅ hl₅ hs₅ => ?_
    have hown : ∀ q ∈ own, q.1 ∉ wr ∧ q.1 ≠ D ∧ q.1 ≠ c ∧ q.1 ≠ cenv.locals := fun q hq => by
      have e := (hmade q hq).1
      refine ⟨fun hm => hwr _ _ hst₂ _ hm e, fun h => ?_, fun h => ?_, fun h => ?_⟩
      · obtain ⟨_, hc⟩ := hacc₂; rw [h, hc] at e; cases e
      · obtain ⟨_, hc, _⟩ := hn₂; rw [h, hc] at e; cases e
      · obtain ⟨o, _, _, ho, _⟩ := hL₂; rw [h, ho] at e; cases e
    have up₅ : ∀ b o, b ≠ c → b ∉ wr → b ≠ D → H.get? b = some o → h₅.get? b = some o := fun b o hbC hbf hbD e => hs₅.extBut b o hbD (hk₃ b o (up₂ b o hbC hbf e))
    refine ⟨n + 1 - (ys.length + 1), by omega, h₅, tk₃, _, some v, ys ++ [y], owns ++ [own], rfl, ?_, by simpa using hl₅, hn₃.sameBut hs₅ hLD, isCell_at (isCell_at hn₂ fun o e => hk₃ _ o e) (fun o e => hs₅.extBut _ _ (Ne.symm hDC) e), ⟨rfl, by simp [hrow.lenO], ?_, ?_⟩, ?_, by simp; omega, by simp, ?_⟩
    · have := W.frame _ _ h₅ hst₃ fun b hb o e => hs₅.extBut b o (fun h => hDf (h ▸ hb)) e
      simpa using this
    · intro j hj
      have hlo := hrow.lenO
      rcases Nat.lt_or_ge j ys.length with h | h
      · obtain ⟨u, hu, hF'⟩ := hrow.rel j h
        refine ⟨u, hu, ?_⟩
        rw [getD_left _ _ _ h, getD_left _ _ _ (by omega)]
        exact hF'
      · have : j = ys.length := by simp at hj; omega
        subst this
        refine ⟨v, hPv, ?_⟩
        rw [getD_last _ _ _ rfl, getD_last _ _ _ hlo]
        exact hF
    · intro ow how
      rcases List.mem_append.mp how with h | h
      · intro q hq
        have hq' := hoff ow h q hq
        exact ⟨(hrow.made ow h q hq).1, up₅ _ _ hq'.2.2.1 hq'.1 hq'.2.1 (hrow.made ow h q hq).2⟩
      · rw [List.mem_singleton] at h
        subst h
        intro q hq
        refine ⟨?_, hs₅.extBut _ _ (hown q hq).2.1 (hmade q hq).2⟩
        cases e : s.heap.get? q.1 with
        | none => rfl
        | some o =>
          have := up₂ q.1 o (hown q hq).2.2.1 (hown q hq).1 (hk _ _ (hown q hq).2.2.1 (hown q hq).1 (hown q hq).2.1 e)
          rw [(hmade q hq).1] at this; cases this
    · intro ow how q hq
      rcases List.mem_append.mp how with h | h
      · exact hoff ow h q hq
      · rw [List.mem_singleton] at h
        subst h
        exact hown q hq
    · exact fun b o hbC hbf hbD e => up₅ b o hbC hbf hbD (hk b o hbC hbf hbD e)
  · have hin : ys.length = n := by omega
    refine W.done _ _ _ (hin ▸ hst') fun h₁ tk₁ hk₁ => ?_
    refine hR h₁ tk₁ m' ys owns (hn'.at' fun o e => hk₁ _ o hLw e) (hacc'.at fun o e => hk₁ _ o hDw e) ⟨hin, by rw [hrow.lenO, hin], by rw [← hin]; exact hrow.rel, fun ow how q hq => ⟨(hrow.made ow how q hq).1, hk₁ _ _ (hoff ow how q hq).1 (hrow.made ow how q hq).2⟩⟩
      (fun ow how q hq => (hoff ow how q hq).2) fun b o hbC hbf hbD e => hk₁ b o hbf (hk b o hbC hbf hbD e)

theorem lookup_relabel_cell {env : Env} : ∀ {names : List (Str × NameKind)} {x : Str}, names.lookup x = some .cell →
    (names.map fun (n, k) => if (k == NameKind.free && env.scope.kind == .function && env.kindOf n == some .cell) then (n, NameKind.cell) else (n, k)).lookup x = some .cell
  | [], _, h => by simp at h
  | (n, k) :: r, x, h => by
    have ih := @lookup_relabel_cell env r x
    show List.lookup x ((if (k == NameKind.free && env.scope.kind == .function && env.kindOf n == some .cell) = true then (n, NameKind.cell) else (n, k)) :: _) = _
    cases hx : x == n with
    | true =>
      simp only [List.lookup_cons, hx] at h
      cases h
      simp [List.lookup_cons, hx]
    | false =>
      simp only [List.lookup_cons, hx] at h
      by_cases hc : (k == NameKind.free && env.scope.kind == .function && env.kindOf n == some .cell) = true
      · rw [if_pos hc]; simp only [List.lookup_cons, hx]; exact ih h
      · rw [if_neg hc]; simp only [List.lookup_cons, hx]; exact ih h

theorem newEnv_cell {scope : Scope} {cl : List (Str × Addr)} {x : Str} {Q : Env → Shared → Prop} {s : Shared} (hcf : ∀ k, cellsFrom k scope.names cl = (x, k) :: cl) (hpc : ∀ h, pushCells h scope.names = h.push { cls := .type "cell", data := .cell none })
    (hQ : Q { scope := scope, locals := s.heap.objs.size, globals := env.globals, cells := (x, s.heap.objs.size + 1) :: cl, qual := env.qual, func := none, code := env.code, frame := env.frame, builtins := env.builtins }
      { s with heap := (s.heap.push { cls := .type "dict", data := .dict #[] }).push { cls := .type "cell", data := .cell none } }) :
    wpAny (model prog w) A (newFunctionEnv scope env.globals cl [] env.qual none .none (some env)) Q E s := by
  simp only [newFunctionEnv, Option.isSome_some, if_true]
  refine wpAny_bind (wpAny_alloc ?_)
  refine wpAny_bind (wpAny_layCells _ (fun name kind cells => by cases hkc : kind == NameKind.cell <;> simp [hkc]) _ _ _ _ ?_)
  rw [show ({ s with heap := s.heap.push { cls := .type "dict", data := .dict #[] } } : Shared).heap.objs.size = s.heap.objs.size + 1 from Heap.size_push ..]
  rw [hcf, hpc]
  simp only [List.forIn_nil]
  exact wpAny_bind (wpAny_pure (wpAny_pure hQ))

theorem comp_blockC {elt iter : Expr} {x : Str} {px : Pos} {scope : Scope} {cl : List (Str × Addr)} {pos : Pos} {s₂ : Shared} {I : Addr} {fp wr : List Addr} {n : Nat} {P : Nat → Value → Prop}
    {St : Nat → Heap → Prop} (W : Walks prog w A I fp wr n P St) (hwr : ∀ i h, St i h → ∀ b ∈ wr, h.get? b ≠ none) (hsz : n ≤ sizeLine) (F : Nat → Value → Value → Own → Prop) {RR : Value → Addr → Result → Shared → Prop}
    (hcf : ∀ k, cellsFrom k scope.names cl = (x, k) :: cl) (hpc : ∀ h, pushCells h scope.names = h.push { cls := .type "cell", data := .cell none }) (hkind : scope.kind = .function) (hx : scope.names.lookup x = some .cell) (hst : St 0 s₂.heap) (hfp : ∀ b ∈ fp, b < s₂.heap.objs.size)
    (hq : EltOkC prog w A (fun C => compEnvC scope ((x, C + 1) :: cl) C env) elt wr n P F s₂)
    (hRR : ∀ D C h' tk m' ys owns, s₂.heap.get? D = none → s₂.heap.get? C = none → D ≠ C → h'.Ns C m' → h'.PlainList D ys.toArray → Rows P F s₂.heap h' n ys owns → (∀ ow ∈ owns, ∀ q ∈ ow, q.1 ≠ D ∧ q.1 ≠ C) →
      (∀ b o, b ∉ wr → s₂.heap.get? b = some o → h'.get? b = some o) → RR (.ref D) C (.ok .next) { s₂ with heap := h', toks := tk }) :
    wpAny (model prog w) A (newList []) (fun acc s₃ => wpAny (model prog w) A (newFunctionEnv scope env.globals cl [] env.qual none .none (some env)) (fun cenv s₄ =>
      codeAny (model prog w) A (.compStart (.ListComp elt [⟨.Name x px, iter, [], 0⟩] scope pos) 0 (.ref I) acc { cenv with scope := relabel scope env }) (RR acc cenv.locals) s₄) E s₃) E s₂ := by
  refine wpAny_newObj_type (newEnv_cell hcf hpc ?_)
  dsimp only
  generalize hH2 : s₂.heap.push { cls := .type "list", dict := none, data := .seq ([] : List Value).toArray } = H2
  have hC : H2.objs.size = s₂.heap.objs.size + 1 := by rw [← hH2, Heap.size_push]
  generalize hH4 : (H2.push { cls := .type "dict", data := .dict #[] }).push { cls := .type "cell", data := .cell none } = H4
  have hDC : s₂.heap.objs.size ≠ H2.objs.size := by rw [hC]; exact Nat.ne_of_lt (Nat.lt_succ_self _)
  have hDc : s₂.heap.objs.size ≠ H2.objs.size + 1 := by rw [hC]; exact Nat.ne_of_lt (Nat.lt_succ_of_lt (Nat.lt_succ_self _))
  have hLc : H2.objs.size ≠ H2.objs.size + 1 := Nat.ne_of_lt (Nat.lt_succ_self _)
  have hCle : s₂.heap.objs.size ≤ H2.objs.size := by rw [hC]; exact Nat.le_succ _
  have below : ∀ b, b < s₂.heap.objs.size → b ≠ H2.objs.size + 1 ∧ b ≠ s₂.heap.objs.size := fun b hb => ⟨by rw [hC]; exact Nat.ne_of_lt (Nat.lt_succ_of_lt (Nat.lt_succ_of_lt hb)), Nat.ne_of_lt hb⟩
  have hDf : s₂.heap.objs.size ∉ fp := fun hm => Nat.lt_irrefl _ (hfp _ hm)
  have hLf : H2.objs.size ∉ fp := fun hm => by have := hfp _ hm; rw [hC] at this; exact Nat.lt_irrefl _ (Nat.lt_of_succ_lt this)
  have hCf : H2.objs.size + 1 ∉ fp := fun hm => by have := hfp _ hm; rw [hC] at this; exact Nat.lt_irrefl _ (Nat.lt_of_succ_lt (Nat.lt_of_succ_lt this))
  have old2 : Kp s₂.heap H2 := hH2 ▸ Kp.push _ _
  have old4 : Kp H2 H4 := hH4 ▸ (Kp.push _ _).push' _
  have old := old2.trans old4
  have hacc : H4.PlainList s₂.heap.objs.size #[] := ⟨_, old4 _ _ (hH2 ▸ Heap.get?_push_size _ rfl)⟩
  have hns : H4.Ns H2.objs.size (fun _ => none) := hH4 ▸ ((Heap.Ns.new H2 (.type "dict")).push _)
  have hcl : H4.IsCell (H2.objs.size + 1) none := by
    have := Heap.get?_push_size (H2.push { cls := .type "dict", data := .dict #[] }) (o := { cls := .type "cell", data := .cell none }) rfl
    rw [Heap.size_push, hH4] at this
    exact ⟨_, this, rfl⟩
  have hst₁ : St 0 H4 := W.frame _ _ _ hst fun b _ o e => old b o e
  have fresh : ∀ a, s₂.heap.objs.size ≤ a → s₂.heap.get? a = none := fun a ha => by
    cases e : s₂.heap.get? a with
    | none => rfl
    | some o' => exact absurd (Heap.lt_size e) (Nat.not_lt.mpr ha)
  have loop : ∀ s₃ : Shared, s₃ = { s₂ with heap := H4 } →
      codeAny (model prog w) A (.compLoop (.ListComp elt [⟨.Name x px, iter, [], 0⟩] scope pos) 0 (.ref I) (.ref s₂.heap.objs.size) (compEnvC scope ((x, H2.objs.size + 1) :: cl) H2.objs.size env))
        (RR (.ref s₂.heap.objs.size) H2.objs.size) s₃ := by
    rintro s₃ rfl
    refine compLoop_cell (c := H2.objs.size + 1) (cenv := compEnvC scope ((x, H2.objs.size + 1) :: cl) H2.objs.size env) W hwr F (lookup_relabel_cell hx) (by simp [compEnvC, relabel, hkind]) (by simp [compEnvC, List.lookup_cons]) hDc hDf hCf hLf hLc (Ne.symm hDC) hst₁ hacc hns hcl
      (fun i v h₃ tk₃ m₃ hi hv hn hm hk => hq _ i v h₃ tk₃ m₃ _ hCle hi hv hn hm (fun b o hbf e => hk b o (below b (Heap.lt_size e)).1 hbf (below b (Heap.lt_size e)).2 (old b o e)))
      (fun h' tk m' ys owns hn hpl hrow hoff hk => ?_) hsz
    exact hRR _ _ h' tk m' ys owns (fresh _ (Nat.le_refl _)) (fresh _ (by rw [hC]; exact Nat.le_succ _)) hDC hn hpl { hrow with made := fun ow how => (hrow.made ow how).before old } (fun ow how q hq => ⟨(hoff ow how q hq).1, (hoff ow how q hq).2.2⟩) fun b o hbf e =>
      hk b o (below b (Heap.lt_size e)).1 hbf (below b (Heap.lt_size e)).2 (old b o e)
  exact codeAny_compStart_list (loop _ rfl) (W.self 0 _ _ _ hst₁ (loop _ rfl))

/-- [elt for x in iter], x a cell of the comprehension's own -/
theorem comp_cell {s : Shared} {elt iter : Expr} {x : Str} {px : Pos} {scope : Scope} {cl : List (Str × Addr)} {pos : Pos} {Q : Value → Shared → Prop} (F : Nat → Value → Value → Own → Prop)
    (hclos : closureFor scope env = pure cl) (hcf : ∀ k, cellsFrom k scope.names cl = (x, k) :: cl) (hpc : ∀ h, pushCells h scope.names = h.push { cls := .type "cell", data := .cell none }) (hkind : scope.kind = .function)
    (hnames : ∀ y ∈ scope.names, y.2 = .local → scope.names.lookup y.1 = some .local) (hx : scope.names.lookup x = some .cell)
    (h : wpAny (model prog w) A (eval iter env) (fun xv s₁ => wpAny (model prog w) A (pyIter xv) (fun it s₂ => ∃ I fp wr n P St, it = .ref I ∧ Walks prog w A I fp wr n P St ∧ (∀ i h, St i h → ∀ b ∈ wr, h.get? b ≠ none) ∧ n ≤ sizeLine ∧ St 0 s₂.heap ∧ (∀ b ∈ fp, b < s₂.heap.objs.size) ∧
      EltOkC prog w A (fun C => compEnvC scope ((x, C + 1) :: cl) C env) elt wr n P F s₂ ∧
      (∀ D h' tk ys owns, s₂.heap.get? D = none → h'.PlainList D ys.toArray → Rows P F s₂.heap h' n ys owns → (∀ ow ∈ owns, ∀ q ∈ ow, q.1 ≠ D) → (∀ b o, b ∉ wr → s₂.heap.get? b = some o → h'.get? b = some o) → Q (.ref D) { s₂ with heap := h', toks := tk })) E s₁) E s)
    (hs : ∀ x, foldedSetIterable iter env x = pure x := by intro _; rfl) :
    wpAny (model prog w) A (eval (.ListComp elt [⟨.Name x px, iter, [], 0⟩] scope pos) env) Q E s := by
  rw [eval_ListComp]
  refine wpAny_comprehension_free (use := none) rfl hs hclos hkind hnames (wpAny_mono h (fun xv s₁ h₁ => wpAny_mono h₁ (fun it s₂ h₂ => ?_) fun _ _ e => e) fun _ _ e => e)
  obtain ⟨I, fp, wr, n, P, St, rfl, W, hwr, hsz, hst, hfp, hq, hQ⟩ := h₂
  refine comp_blockC (RR := fun acc C => compPost (model prog w) A E none Q acc C) W hwr hsz F hcf hpc hkind hx hst hfp hq ?_
  intro D C h' tk m' ys owns hD hC hDC hn hpl hrow hoff hk
  refine ⟨m', hn, fun h'' hs'' => hQ D h'' tk ys owns hD (hpl.at fun o e => hs''.extBut _ _ hDC e) { hrow with made := fun ow how q hq => ⟨(hrow.made ow how q hq).1, hs''.extBut _ _ (hoff ow how q hq).2 (hrow.made ow how q hq).2⟩ } (fun ow how q hq => (hoff ow how q hq).1) fun b o hbf e => ?_⟩
  exact hs''.extBut b o (by rintro rfl; rw [hC] at e; cases e) (hk b o hbf e)

/-- y = [elt for x in iter], y a plain local name, x a cell of the comprehension's own -/
theorem comp_cell_assign {s : Shared} {elt iter : Expr} {x y : Str} {px py : Pos} {scope : Scope} {cl : List (Str × Addr)} {pos spos : Pos} {Q : Flow → Shared → Prop} (F : Nat → Value → Value → Own → Prop)
    (hsw : swapsWith (.ListComp elt [⟨.Name x px, iter, [], 0⟩] scope pos) (some (.Name y py)) spos.line env = pure true)
    (hclos : closureFor scope env = pure cl) (hcf : ∀ k, cellsFrom k scope.names cl = (x, k) :: cl) (hpc : ∀ h, pushCells h scope.names = h.push { cls := .type "cell", data := .cell none }) (hkind : scope.kind = .function)
    (hnames : ∀ y ∈ scope.names, y.2 = .local → scope.names.lookup y.1 = some .local) (hx : scope.names.lookup x = some .cell)
    (hy : env.kindOf y = some .local) (hp : (env.scope.kind == .class || (env.scope.kind == .module && env.locals != env.globals)) = false)
    (h : wpAny (model prog w) A (eval iter env) (fun xv s₁ => wpAny (model prog w) A (pyIter xv) (fun it s₂ => ∃ I fp wr n P St m, it = .ref I ∧ Walks prog w A I fp wr n P St ∧ (∀ i h, St i h → ∀ b ∈ wr, h.get? b ≠ none) ∧ n ≤ sizeLine ∧ St 0 s₂.heap ∧ (∀ b ∈ fp, b < s₂.heap.objs.size) ∧
      env.locals ∉ wr ∧ s₂.heap.Ns env.locals m ∧ EltOkC prog w A (fun C => compEnvC scope ((x, C + 1) :: cl) C env) elt wr n P F s₂ ∧
      (∀ D h' tk ys owns, s₂.heap.get? D = none → h'.PlainList D ys.toArray → Rows P F s₂.heap h' n ys owns → (∀ ow ∈ owns, ∀ q ∈ ow, q.1 ≠ D) →
        h'.Ns env.locals (fun z => if z = y then some (.ref D) else m z) → (∀ b o, b ≠ env.locals → b ∉ wr → s₂.heap.get? b = some o → h'.get? b = some o) → Q .next { s₂ with heap := h', toks := tk })) E s₁) E s)
    (hs : ∀ x, foldedSetIterable iter env x = pure x := by intro _; rfl) :
    wpAny (model prog w) A (exec (.Assign [.Name y py] (.ListComp elt [⟨.Name x px, iter, [], 0⟩] scope pos) spos) env) Q E s := by
  rw [exec_Assign_Name_used _ _ _ _ hsw]
  refine wpAny_bind (wpAny_standAt (wpAny_bind ?_))
  show wpAny _ A (do let _ ← comprehension (.ListComp elt [⟨.Name x px, iter, [], 0⟩] scope pos) scope env _ (newList []) false (eval iter env) (some (assign (.Name y py) env))) _ _ s
  refine wpAny_bind (wpAny_mono (wpAny_comprehension_free (use := some (assign (.Name y py) env)) (Q := fun _ s' => Q .next s') rfl hs hclos hkind hnames
    (wpAny_mono h (fun xv s₁ h₁ => wpAny_mono h₁ (fun it s₂ h₂ => ?_) fun _ _ e => e) fun _ _ e => e)) (fun _ s' hq => wpAny_pure (wpAny_pure hq)) fun _ _ e => e)
  obtain ⟨I, fp, wr, n, P, St, m, rfl, W, hwr, hsz, hst, hfp, hLf, hn, hq, hQ⟩ := h₂
  refine comp_blockC (RR := fun acc C => compPost (model prog w) A E (some (assign (.Name y py) env)) (fun _ s' => Q .next s') acc C) W hwr hsz F hcf hpc hkind hx hst hfp hq ?_
  intro D C h' tk m' ys owns hD hC hDC hnC hplD hrow hoff hk
  have hLC : env.locals ≠ C := by rintro rfl; obtain ⟨o, _, _, ho, _⟩ := hn; rw [hC] at ho; cases ho
  have hLD : env.locals ≠ D := by rintro rfl; obtain ⟨o, _, _, ho, _⟩ := hn; rw [hD] at ho; cases ho
  have hLo : ∀ ow ∈ owns, ∀ q ∈ ow, q.1 ≠ env.locals := fun ow how q hq e => by
    obtain ⟨o, _, _, ho, _⟩ := hn
    have := (hrow.made ow how q hq).1
    rw [e, ho] at this; cases this
  show wpAny _ A (assign (.Name y py) env (.ref D)) _ _ _
  refine wpAny_assign_Name (wpAny_storeName_local hy (hn.at' fun o e => hk _ o hLf e) (fun h₂ hn₂ hs₂ => ?_) hp)
  refine ⟨m', hnC.sameBut hs₂ (Ne.symm hLC), fun h₃ hs₃ => ?_⟩
  refine hQ D h₃ _ ys owns hD ((hplD.at fun o e => hs₂.extBut _ _ (Ne.symm hLD) e).at fun o e => hs₃.extBut _ _ hDC e)
    { hrow with made := fun ow how q hq => ⟨(hrow.made ow how q hq).1, hs₃.extBut _ _ (hoff ow how q hq).2 (hs₂.extBut _ _ (hLo ow how q hq) (hrow.made ow how q hq).2)⟩ }
    (fun ow how q hq => (hoff ow how q hq).1) (hn₂.sameBut hs₃ hLC) fun b o hbL hbf e => ?_
  exact hs₃.extBut b o (by rintro rfl; rw [hC] at e; cases e) (hs₂.extBut b o hbL (hk b o hbf e))
end
end Mine
namespace Mine
open PySem PySem.W PySem.Spec PySem.Calls PyProof.Rows
section
variable {prog : Program} {w : World} {A : Around} {E : Value → Shared → Prop} {env : Env}

/-- an iterator at its start; all that it writes is new over g -/
def Src (prog : Program) (w : World) (A : Around) (g h : Heap) (it : Value) (n : Nat) (P : Nat → Value → Prop) : Prop :=
  ∃ I fp wr St, it = .ref I ∧ Walks prog w A I fp wr n P St ∧ (∀ i h, St i h → ∀ b ∈ wr, h.get? b ≠ none) ∧ n ≤ sizeLine ∧ St 0 h ∧ (∀ b ∈ fp, b < h.objs.size) ∧ (∀ b ∈ wr, g.get? b = none) ∧ (∀ b ∈ fp, b ∈ wr ∨ ∃ xs, g.IsList b xs) ∧ Kp g h

def IterOf (prog : Program) (w : World) (A : Around) (xv : Value) (s₁ : Shared) (n : Nat) (P : Nat → Value → Prop) : Prop :=
  ∀ (Q : Value → Shared → Prop) (E : Value → Shared → Prop), (∀ it h tk, Src prog w A s₁.heap h it n P → Q it { s₁ with heap := h, toks := tk }) → wpAny (model prog w) A (pyIter xv) Q E s₁

theorem iter_list {s₁ : Shared} {l : Addr} {vs : List Value} (hh : A.handled = none) (hl : s₁.heap.IsList l vs.toArray) (hsz : vs.length ≤ 16777216) : IterOf prog w A (.ref l) s₁ vs.length (fun i v => vs[i]? = some v) := fun Q E hQ => by
  have hlt := let ⟨_, ho, _⟩ := hl; Heap.lt_size ho
  have W := Walks.list (prog := prog) (w := w) hh s₁.heap.objs.size l (Nat.ne_of_lt hlt) vs.toArray
  simp only [List.size_toArray, List.getElem?_toArray] at W
  refine wpAny_pyIter_list hl (hQ _ _ _ ⟨_, [s₁.heap.objs.size, l], [s₁.heap.objs.size], _, rfl, W, ?_, by rw [sizeLine_eq]; exact hsz, ⟨⟨_, Heap.get?_push_size _ rfl, rfl, rfl⟩, hl.push _⟩, ?_, ?_, ?_, Kp.push _ _⟩)
  · intro i h st b hb
    rw [List.mem_singleton] at hb
    subst hb
    obtain ⟨o, ho, _⟩ := st.1
    rw [ho]; simp
  · intro b hb
    rw [Heap.size_push]
    rcases List.mem_cons.mp hb with rfl | hb
    · exact Nat.lt_succ_self _
    · rw [List.mem_singleton] at hb; subst hb; exact Nat.lt_succ_of_lt hlt
  · intro b hb
    rw [List.mem_singleton] at hb
    subst hb
    exact Heap.get?_none_of_le (Nat.le_refl _)
  · intro b hb
    rcases List.mem_cons.mp hb with rfl | hb
    · exact .inl (List.mem_singleton.mpr rfl)
    · rw [List.mem_singleton] at hb; subst hb; exact .inr ⟨_, hl⟩

theorem iter_range {s₁ : Shared} {r : Addr} {a b c : Int} {t u v : Tok} {n : Nat} (hh : A.handled = none) (hr : IsRange s₁.heap r a b c t u v) (hsm : Builtin.Range.small a b c = true) (hn : Builtin.Range.rangeSize a b c = (n : Int)) (hsz : n ≤ 16777216) :
    IterOf prog w A (.ref r) s₁ n (fun i v => ∃ t, v = .int (a + i * c) t) := fun Q E hQ => by
  refine wpAny_pyIter_range hr hsm (hQ _ _ _ ⟨_, [s₁.heap.objs.size], [s₁.heap.objs.size], _, rfl, Walks.range hh s₁.heap.objs.size a c n, ?_, by rw [sizeLine_eq]; exact hsz, ?_, ?_, ?_, fun b hb => .inl hb, Kp.push _ _⟩)
  · intro i h st b hb
    rw [List.mem_singleton] at hb
    subst hb
    have : h.get? s₁.heap.objs.size = some _ := st
    rw [this]; simp
  · have := Heap.get?_push_size s₁.heap (o := { cls := .type "range_iterator", data := .fields #[rawInt a, rawInt (Builtin.Range.rangeSize a b c), rawInt c] }) rfl
    rw [hn] at this ⊢
    simpa using this
  · intro b hb
    rw [Heap.size_push]
    rw [List.mem_singleton] at hb; subst hb; exact Nat.lt_succ_self _
  · intro b hb
    rw [List.mem_singleton] at hb
    subst hb
    exact Heap.get?_none_of_le (Nat.le_refl _)

theorem iter_bytes {s₁ : Shared} {b : Array UInt8} {t : Tok} (hh : A.handled = none) (hsz : b.size ≤ 16777216) : IterOf prog w A (.bytes b t) s₁ b.size (fun i v => ∃ c u, b[i]? = some c ∧ v = .int (c.toNat : Int) u) := fun Q E hQ => by
  refine KBw.pyIter_bytes (hQ _ _ _ ⟨_, [s₁.heap.objs.size], [s₁.heap.objs.size], _, rfl, KBw.walks hh s₁.heap.objs.size b t, ?_, by rw [sizeLine_eq]; exact hsz, ⟨_, Heap.get?_push_size _ rfl, rfl, rfl⟩, ?_, ?_, fun b hb => .inl hb, Kp.push _ _⟩)
  · intro i h st b hb
    rw [List.mem_singleton] at hb
    subst hb
    obtain ⟨o, ho, _⟩ := st
    rw [ho]; simp
  · intro b hb
    rw [Heap.size_push]
    rw [List.mem_singleton] at hb; subst hb; exact Nat.lt_succ_self _
  · intro b hb
    rw [List.mem_singleton] at hb
    subst hb
    exact Heap.get?_none_of_le (Nat.le_refl _)

/-- the element at any turn, over the heap in which the source was looked up -/
def Body (prog : Program) (w : World) (A : Around) (cenv : Addr → Env) (x : Str) (elt : Expr) (n : Nat) (P : Nat → Value → Prop) (F : Nat → Value → Value → Own → Prop) (s₁ : Shared) : Prop :=
  ∀ C i v h tk m E', s₁.heap.get? C = none → i < n → P i v → h.Ns C m → m x = some v → Kp s₁.heap h →
    wpAny (model prog w) A (eval elt (cenv C)) (fun y s₄ => ∃ h₄ tk₄ own, s₄ = { s₁ with heap := h₄, toks := tk₄ } ∧ Kp h h₄ ∧ F i v y own ∧ Made h h₄ own) E' { s₁ with heap := h, toks := tk }
def BodyC (prog : Program) (w : World) (A : Around) (cenv : Addr → Env) (elt : Expr) (n : Nat) (P : Nat → Value → Prop) (F : Nat → Value → Value → Own → Prop) (s₁ : Shared) : Prop :=
  ∀ C i v h tk m E', s₁.heap.get? C = none → i < n → P i v → h.Ns C m → h.IsCell (C + 1) (some v) → Kp s₁.heap h →
    wpAny (model prog w) A (eval elt (cenv C)) (fun y s₄ => ∃ h₄ tk₄ own, s₄ = { s₁ with heap := h₄, toks := tk₄ } ∧ Kp h h₄ ∧ F i v y own ∧ Made h h₄ own) E' { s₁ with heap := h, toks := tk }
def Done (P : Nat → Value → Prop) (F : Nat → Value → Value → Own → Prop) (n : Nat) (s₁ : Shared) (Q : Value → Shared → Prop) : Prop :=
  ∀ D h' tk ys owns, s₁.heap.get? D = none → h'.PlainList D ys.toArray → Rows P F s₁.heap h' n ys owns → (∀ ow ∈ owns, ∀ q ∈ ow, q.1 ≠ D) → Kp s₁.heap h' → Q (.ref D) { s₁ with heap := h', toks := tk }
/-- as Done, where the list goes to the local name y at once -/
def DoneA (P : Nat → Value → Prop) (F : Nat → Value → Value → Own → Prop) (n : Nat) (s₁ : Shared) (L : Addr) (m : Str → Option Value) (y : Str) (Q : Flow → Shared → Prop) : Prop :=
  ∀ D h' tk ys owns, s₁.heap.get? D = none → h'.PlainList D ys.toArray → Rows P F s₁.heap h' n ys owns → (∀ ow ∈ owns, ∀ q ∈ ow, q.1 ≠ D ∧ q.1 ≠ L) →
    h'.Ns L (fun z => if z = y then some (.ref D) else m z) → (∀ b o, b ≠ L → s₁.heap.get? b = some o → h'.get? b = some o) → Q .next { s₁ with heap := h', toks := tk }

theorem kp_of {g h : Heap} {wr : List Addr} (k : Kp g h) (hf : ∀ b ∈ wr, g.get? b = none) {h' : Heap} (e : ∀ b o, b ∉ wr → h.get? b = some o → h'.get? b = some o) : Kp g h' :=
  fun b o x => e b o (fun hb => by rw [hf b hb] at x; cases x) (k b o x)
theorem none_up {g h : Heap} (k : Kp g h) {a : Addr} (e : h.objs.size ≤ a) : g.get? a = none := none_of_kp k (Heap.get?_none_of_le e)

theorem body_elt {cenv : Addr → Env} {x : Str} {elt : Expr} {n : Nat} {P : Nat → Value → Prop} {F : Nat → Value → Value → Own → Prop} {s₁ : Shared} {h : Heap} {tk : Nat} {wr : List Addr} (k : Kp s₁.heap h) (hf : ∀ b ∈ wr, s₁.heap.get? b = none)
    (B : Body prog w A cenv x elt n P F s₁) : EltOk prog w A cenv x elt wr n P F { s₁ with heap := h, toks := tk } :=
  fun C i v h₃ tk₃ m₃ E' hC hi hP hn hm hk => B C i v h₃ tk₃ m₃ E' (none_up k hC) hi hP hn hm (kp_of k hf hk)
theorem bodyC_elt {cenv : Addr → Env} {elt : Expr} {n : Nat} {P : Nat → Value → Prop} {F : Nat → Value → Value → Own → Prop} {s₁ : Shared} {h : Heap} {tk : Nat} {wr : List Addr} (k : Kp s₁.heap h) (hf : ∀ b ∈ wr, s₁.heap.get? b = none)
    (B : BodyC prog w A cenv elt n P F s₁) : EltOkC prog w A cenv elt wr n P F { s₁ with heap := h, toks := tk } :=
  fun C i v h₃ tk₃ m₃ E' hC hi hP hn hm hk => B C i v h₃ tk₃ m₃ E' (none_up k hC) hi hP hn hm (kp_of k hf hk)

theorem done_assign {P : Nat → Value → Prop} {F : Nat → Value → Value → Own → Prop} {n : Nat} {s₁ : Shared} {m : Str → Option Value} {y : Str} {Q : Flow → Shared → Prop} {L : Addr} {h : Heap} {wr : List Addr} (hn : s₁.heap.Ns L m) (k : Kp s₁.heap h) (hf : ∀ b ∈ wr, s₁.heap.get? b = none) (D : DoneA P F n s₁ L m y Q) :
    ∀ D' h' tk' ys owns, h.get? D' = none → h'.PlainList D' ys.toArray → Rows P F h h' n ys owns → (∀ ow ∈ owns, ∀ q ∈ ow, q.1 ≠ D') →
        h'.Ns L (fun z => if z = y then some (.ref D') else m z) → (∀ b o, b ≠ L → b ∉ wr → h.get? b = some o → h'.get? b = some o) → Q .next { s₁ with heap := h', toks := tk' } :=
  fun D' h' tk' ys owns hD hpl hrow hoff hns hk => D D' h' tk' ys owns (none_of_kp k hD) hpl { hrow with made := fun ow how => (hrow.made ow how).before k }
    (fun ow how q hq => ⟨hoff ow how q hq, fun e => by
      have := ((hrow.made ow how).before k q hq).1
      obtain ⟨o, _, _, ho, _⟩ := hn
      rw [e, ho] at this; cases this⟩) hns fun b o hb x => hk b o hb (fun hw => by rw [hf b hw] at x; cases x) (k b o x)
theorem off_wr {s₁ : Shared} {m : Str → Option Value} {L : Addr} {wr : List Addr} (hn : s₁.heap.Ns L m) (hf : ∀ b ∈ wr, s₁.heap.get? b = none) : L ∉ wr := fun h => by
  obtain ⟨o, _, _, ho, _⟩ := hn
  rw [hf L h] at ho; cases ho

section
variable {s : Shared} {elt iter : Expr} {x y : Str} {px py : Pos} {scope : Scope} {cl : List (Str × Addr)} {pos spos : Pos} (F : Nat → Value → Value → Own → Prop)
  (hclos : closureFor scope env = pure cl) (hkind : scope.kind = .function) (hnames : ∀ y ∈ scope.names, y.2 = .local → scope.names.lookup y.1 = some .local)
include hclos hkind hnames

theorem lcomp {Q : Value → Shared → Prop} (hcell : ∀ y ∈ scope.names, y.2 ≠ .cell) (hx : scope.names.lookup x = some .local)
    (h : wpAny (model prog w) A (eval iter env) (fun xv s₁ => ∃ n P, IterOf prog w A xv s₁ n P ∧ Body prog w A (fun C => compEnvC scope cl C env) x elt n P F s₁ ∧ Done P F n s₁ Q) E s)
    (hs : ∀ x, foldedSetIterable iter env x = pure x := by intro _; rfl) :
    wpAny (model prog w) A (eval (.ListComp elt [⟨.Name x px, iter, [], 0⟩] scope pos) env) Q E s := by
  refine comp_own F hclos hcell hkind hnames hx (wpAny_mono h (fun xv s₁ h₁ => ?_) fun _ _ e => e) hs
  obtain ⟨n, P, hit, B, D⟩ := h₁
  refine hit _ _ fun it h tk S => ?_
  obtain ⟨I, fp, wr, St, rfl, W, hwr, hsz, hst, hfp, hf, _, k⟩ := S
  exact ⟨I, fp, wr, n, P, St, rfl, W, hwr, hsz, hst, hfp, body_elt k hf B, fun D' h' tk' ys owns hD hpl hrow hoff hk =>
    D D' h' tk' ys owns (none_of_kp k hD) hpl { hrow with made := fun ow how => (hrow.made ow how).before k } hoff (kp_of k hf hk)⟩

theorem lcompC {Q : Value → Shared → Prop} (hcf : ∀ k, cellsFrom k scope.names cl = (x, k) :: cl) (hpc : ∀ h, pushCells h scope.names = h.push { cls := .type "cell", data := .cell none }) (hx : scope.names.lookup x = some .cell)
    (h : wpAny (model prog w) A (eval iter env) (fun xv s₁ => ∃ n P, IterOf prog w A xv s₁ n P ∧ BodyC prog w A (fun C => compEnvC scope ((x, C + 1) :: cl) C env) elt n P F s₁ ∧ Done P F n s₁ Q) E s)
    (hs : ∀ x, foldedSetIterable iter env x = pure x := by intro _; rfl) :
    wpAny (model prog w) A (eval (.ListComp elt [⟨.Name x px, iter, [], 0⟩] scope pos) env) Q E s := by
  refine comp_cell F hclos hcf hpc hkind hnames hx (wpAny_mono h (fun xv s₁ h₁ => ?_) fun _ _ e => e) hs
  obtain ⟨n, P, hit, B, D⟩ := h₁
  refine hit _ _ fun it h tk S => ?_
  obtain ⟨I, fp, wr, St, rfl, W, hwr, hsz, hst, hfp, hf, _, k⟩ := S
  exact ⟨I, fp, wr, n, P, St, rfl, W, hwr, hsz, hst, hfp, bodyC_elt k hf B, fun D' h' tk' ys owns hD hpl hrow hoff hk =>
    D D' h' tk' ys owns (none_of_kp k hD) hpl { hrow with made := fun ow how => (hrow.made ow how).before k } hoff (kp_of k hf hk)⟩

theorem lcomp_assign {Q : Flow → Shared → Prop} (hsw : swapsWith (.ListComp elt [⟨.Name x px, iter, [], 0⟩] scope pos) (some (.Name y py)) spos.line env = pure true)
    (hcell : ∀ y ∈ scope.names, y.2 ≠ .cell) (hx : scope.names.lookup x = some .local) (hy : env.kindOf y = some .local) (hp : (env.scope.kind == .class || (env.scope.kind == .module && env.locals != env.globals)) = false)
    (h : wpAny (model prog w) A (eval iter env) (fun xv s₁ => ∃ n P m, IterOf prog w A xv s₁ n P ∧ s₁.heap.Ns env.locals m ∧ Body prog w A (fun C => compEnvC scope cl C env) x elt n P F s₁ ∧ DoneA P F n s₁ env.locals m y Q) E s)
    (hs : ∀ x, foldedSetIterable iter env x = pure x := by intro _; rfl) :
    wpAny (model prog w) A (exec (.Assign [.Name y py] (.ListComp elt [⟨.Name x px, iter, [], 0⟩] scope pos) spos) env) Q E s := by
  refine comp_own_assign F hsw hclos hcell hkind hnames hx hy hp (wpAny_mono h (fun xv s₁ h₁ => ?_) fun _ _ e => e) hs
  obtain ⟨n, P, m, hit, hn, B, D⟩ := h₁
  refine hit _ _ fun it h tk S => ?_
  obtain ⟨I, fp, wr, St, rfl, W, hwr, hsz, hst, hfp, hf, _, k⟩ := S
  exact ⟨I, fp, wr, n, P, St, m, rfl, W, hwr, hsz, hst, hfp, off_wr hn hf, hn.keeps k, body_elt k hf B, done_assign (s₁ := s₁) hn k hf D⟩

theorem lcompC_assign {Q : Flow → Shared → Prop} (hsw : swapsWith (.ListComp elt [⟨.Name x px, iter, [], 0⟩] scope pos) (some (.Name y py)) spos.line env = pure true)
    (hcf : ∀ k, cellsFrom k scope.names cl = (x, k) :: cl) (hpc : ∀ h, pushCells h scope.names = h.push { cls := .type "cell", data := .cell none }) (hx : scope.names.lookup x = some .cell) (hy : env.kindOf y = some .local) (hp : (env.scope.kind == .class || (env.scope.kind == .module && env.locals != env.globals)) = false)
    (h : wpAny (model prog w) A (eval iter env) (fun xv s₁ => ∃ n P m, IterOf prog w A xv s₁ n P ∧ s₁.heap.Ns env.locals m ∧ BodyC prog w A (fun C => compEnvC scope ((x, C + 1) :: cl) C env) elt n P F s₁ ∧ DoneA P F n s₁ env.locals m y Q) E s)
    (hs : ∀ x, foldedSetIterable iter env x = pure x := by intro _; rfl) :
    wpAny (model prog w) A (exec (.Assign [.Name y py] (.ListComp elt [⟨.Name x px, iter, [], 0⟩] scope pos) spos) env) Q E s := by
  refine comp_cell_assign F hsw hclos hcf hpc hkind hnames hx hy hp (wpAny_mono h (fun xv s₁ h₁ => ?_) fun _ _ e => e) hs
  obtain ⟨n, P, m, hit, hn, B, D⟩ := h₁
  refine hit _ _ fun it h tk S => ?_
  obtain ⟨I, fp, wr, St, rfl, W, hwr, hsz, hst, hfp, hf, _, k⟩ := S
  exact ⟨I, fp, wr, n, P, St, m, rfl, W, hwr, hsz, hst, hfp, off_wr hn hf, hn.keeps k, bodyC_elt k hf B, done_assign (s₁ := s₁) hn k hf D⟩
end
end
end Mine
namespace Mine
open PySem PySem.W PySem.Spec PySem.Calls PyProof.Rows
section
variable {prog : Program} {w : World} {A : Around} {E : Value → Shared → Prop} {s : Shared} {Q : Value → Shared → Prop} {env : Env} {x : Str} {pos : Pos} {v : Value} {mg mb : Str → Option Value} {p : Program} {loose : List Str} {K : Frag} {h₀ : Heap}

theorem n_local {m : Str → Option Value} (hn : s.heap.Ns env.locals m) (hv : m x = some v) (h : Q v s) (hk : env.scope.kind = .function := by rfl) (hl : env.kindOf x = some .local := by rfl) (hd : (x == ("__debug__" : Str)) = false := by decide) :
    wpAny (model prog w) A (eval (.Name x pos) env) Q E s := wpAny_Name (wpAny_loadName_local hk hl hn hv h) hd
theorem n_cell {c : Addr} (hc : env.cells.lookup x = some c) (hv : s.heap.IsCell c (some v)) (h : Q v s) (hk : env.scope.kind = .function := by rfl) (hl : env.kindOf x = some .cell := by rfl) (hd : (x == ("__debug__" : Str)) = false := by decide) :
    wpAny (model prog w) A (eval (.Name x pos) env) Q E s := wpAny_Name (wpAny_loadName_cell hk hl hc hv h) hd
theorem n_global (X : K.In h₀) (T : TopRead p loose mg mb h₀) (k : Kp h₀ s.heap) (e : nsIn K mainGlobals x = some (some v)) (h : Q v s) (hk : env.scope.kind = .function := by rfl) (hl : env.kindOf x = some .globalImplicit := by rfl) (hg : env.globals = mainGlobals := by rfl) (hd : (x == ("__debug__" : Str)) = false := by decide) :
    wpAny (model prog w) A (eval (.Name x pos) env) Q E s := Name_function_global hk hl (loadGlobal_global (mg := mg) (hg ▸ T.g.keeps k) (mg_of X T.g e) h) hd
theorem n_builtin (X : K.In h₀) (T : TopRead p loose mg mb h₀) (k : Kp h₀ s.heap) (e : nsIn K mainGlobals x = some none) (hv : bootBuiltins x = some v) (hn : x ≠ "__name__") (h : Q v s) (hk : env.scope.kind = .function := by rfl) (hl : env.kindOf x = some .globalImplicit := by rfl) (hg : env.globals = mainGlobals := by rfl) (hb : env.builtins = builtinsNs := by rfl) (hd : (x == ("__debug__" : Str)) = false := by decide) :
    wpAny (model prog w) A (eval (.Name x pos) env) Q E s := Name_function_global hk hl (loadGlobal_builtin (mg := mg) (mb := mb) (hg ▸ T.g.keeps k) (mg_none_of X T.g e) (hb ▸ T.b.keeps k) ((T.builtins x hn).trans hv) h) hd

theorem pow16 {k : Nat} {t u : Tok} (hk : k ≤ 1000) (h : Q (.int (16 ^ k) s.toks) { s with toks := s.toks + 1 }) : wpAny (model prog w) A (binaryOp .Pow (.int 16 t) (.int (k : Nat) u)) Q E s := by
  by_cases h0 : k = 0
  · subst h0
    exact AutoIntOps.pow_0 (by decide) (by decide) h
  · refine AutoIntOps.pow_4 (by omega) (by simpa using h0) (by decide) (by decide) ?_ (by rw [Int.toNat_natCast]; exact h)
    unfold Builtin.Int.intTooBig
    simp only [decide_eq_true_eq]
    have e : Builtin.Int.intBits 16 = 5 := by decide +kernel
    have e2 : (1000000 : Int) ≤ bitsLine := by decide +kernel
    rw [e]
    omega
theorem mul_ok {a b : Int} (h : b.natAbs ≤ 2 ^ 53) : IntMulOk a b := IntMulOk.of_right (intBits_le_64 (by omega) (by omega))

theorem pow16_le (k : Nat) (hk : k ≤ 13) : (16 : Int) ^ k ≤ 2 ^ 53 ∧ (0 : Int) < 16 ^ k := by
  have : ∀ k : Fin 14, (16 : Int) ^ k.val ≤ 2 ^ 53 ∧ (0 : Int) < 16 ^ k.val := by decide +kernel
  exact this ⟨k, by omega⟩
end

theorem ints_of : ∀ (ys : List Value) (f : Nat → Int), (∀ j, j < ys.length → ∃ u, ys.getD j .none = .int (f j) u) → IntsAre ys ((List.range ys.length).map f)
  | [], _, _ => IntsAre.nil
  | y :: r, f, h => by
    obtain ⟨u, hu⟩ := h 0 (by simp)
    have hy : y = .int (f 0) u := by simpa using hu
    subst hy
    have ih := ints_of r (fun j => f (j + 1)) fun j hj => by
      obtain ⟨u, hu⟩ := h (j + 1) (by simp; omega)
      exact ⟨u, by simpa using hu⟩
    rw [List.length_cons, List.range_succ_eq_map, List.map_cons, List.map_map]
    exact IntsAre.cons _ _ ih
theorem rows_ints {P : Nat → Value → Prop} {F : Nat → Value → Value → Own → Prop} {g h : Heap} {n : Nat} {ys : List Value} {owns : List Own} (r : Rows P F g h n ys owns) (f : Nat → Int) (hf : ∀ i v y own, i < n → P i v → F i v y own → ∃ u, y = .int (f i) u) : IntsAre ys ((List.range n).map f) := by
  have := ints_of ys f fun j hj => by
    obtain ⟨v, hv, hF⟩ := r.rel j (by rw [← r.len]; exact hj)
    exact hf j v _ _ (by rw [← r.len]; exact hj) hv hF
  rw [r.len] at this
  exact this

abbrev lst (vs : List Value) (n : Nat) : Obj := { cls := .type "list", data := .seq vs.toArray n }
theorem news_after {h₀ h h' : Heap} {L : Addr} {news : List (Addr × Obj)} (N : News h₀ L h news) (k : Kp h h') : News h₀ L h' news := fun p hp => ⟨k _ _ (N p hp).1, (N p hp).2⟩
theorem news_add {h₀ h h' : Heap} {L D : Addr} {o : Obj} {m : Str → Option Value} {news : List (Addr × Obj)} (F : Fr h₀ L h m) (N : News h₀ L h news) (k : Kp h h') (hD : h.get? D = none) (hd : h'.get? D = some o) : News h₀ L h' ((D, o) :: news) := fun p hp => by
  rcases List.mem_cons.mp hp with rfl | hp
  · refine ⟨hd, fun e => ?_, ?_⟩
    · obtain ⟨oL, _, _, hL, _⟩ := F.ns
      have e' : D = L := e
      rw [e', hL] at hD; cases hD
    · exact none_of_kp F.keep hD
  · exact news_after N k p hp
end Mine
namespace Mine
open PySem PySem.W PySem.Spec PySem.Calls PyProof.Rows
/-- all but the object L stands -/
def KpBut (L : Addr) (h h' : Heap) : Prop := ∀ b o, b ≠ L → h.get? b = some o → h'.get? b = some o
theorem KpBut.refl (L : Addr) (h : Heap) : KpBut L h h := fun _ _ _ e => e
theorem KpBut.trans {L : Addr} {a b c : Heap} (x : KpBut L a b) (y : KpBut L b c) : KpBut L a c := fun d o n e => y d o n (x d o n e)
theorem Kp.but {L : Addr} {a b : Heap} (x : Kp a b) : KpBut L a b := fun d o _ e => x d o e
theorem fr_but {h₀ h h' : Heap} {L : Addr} {m m' : Str → Option Value} (F : Fr h₀ L h m) (k : KpBut L h h') (hn : h'.Ns L m') : Fr h₀ L h' m' :=
  ⟨hn, fun b o e => k b o (Nat.ne_of_lt (Nat.lt_of_lt_of_le (Heap.lt_size e) F.above)) (F.keep b o e), F.above⟩
theorem news_but {h₀ h h' : Heap} {L : Addr} {news : List (Addr × Obj)} (N : News h₀ L h news) (k : KpBut L h h') : News h₀ L h' news := fun p hp => ⟨k _ _ (N p hp).2.1 (N p hp).1, (N p hp).2⟩

section
variable {prog : Program} {w : World} {A : Around} {E : Value → Shared → Prop} {env : Env}
theorem kept_of {h₀ h : Heap} {L : Addr} (fp : List Addr) (hLf : L ∉ fp) : ∃ kept : List (Addr × Obj), News h₀ L h kept ∧ ∀ b ∈ fp, ∀ o, h.get? b = some o → h₀.get? b = none → (b, o) ∈ kept := by
  induction fp with
  | nil => exact ⟨[], News.nil, fun _ hb => nomatch hb⟩
  | cons c r ih =>
    obtain ⟨kept, hN, hm⟩ := ih fun h => hLf (List.mem_cons_of_mem _ h)
    cases hc : h.get? c with
    | none =>
      refine ⟨kept, hN, fun b hb o e e0 => ?_⟩
      rcases List.mem_cons.mp hb with rfl | hb
      · rw [hc] at e; cases e
      · exact hm b hb o e e0
    | some oc =>
      by_cases h0 : h₀.get? c = none
      · refine ⟨(c, oc) :: kept, fun q hq => ?_, fun b hb o e e0 => ?_⟩
        · rcases List.mem_cons.mp hq with rfl | hq
          · exact ⟨hc, fun e => hLf (e ▸ List.mem_cons_self), h0⟩
          · exact hN q hq
        · rcases List.mem_cons.mp hb with rfl | hb
          · rw [hc] at e; cases e; exact List.mem_cons_self
          · exact List.mem_cons_of_mem _ (hm b hb o e e0)
      · refine ⟨kept, hN, fun b hb o e e0 => ?_⟩
        rcases List.mem_cons.mp hb with rfl | hb
        · exact absurd e0 h0
        · exact hm b hb o e e0
theorem news_append {h₀ h : Heap} {L : Addr} {a b : List (Addr × Obj)} (x : News h₀ L h a) (y : News h₀ L h b) : News h₀ L h (a ++ b) := fun p hp => (List.mem_append.mp hp).elim (x p) (y p)
theorem news_left {h₀ h : Heap} {L : Addr} {a b : List (Addr × Obj)} (x : News h₀ L h (a ++ b)) : News h₀ L h a := fun p hp => x p (List.mem_append_left _ hp)

/-- a for loop whose turns change the frame's names alone -/
theorem for_rule {s : Shared} {x : Str} {px pos : Pos} {iter : Expr} {body : List Stmt} {Q : Flow → Shared → Prop} {h₀ : Heap} (hx : env.kindOf x = some .local) (hp : (env.scope.kind == .class || (env.scope.kind == .module && env.locals != env.globals)) = false)
    (h : wpAny (model prog w) A (eval iter env) (fun xv s₁ => ∃ (n : Nat) (P : Nat → Value → Prop) (m₀ : Str → Option Value) (news : List (Addr × Obj)) (J : Nat → (Str → Option Value) → Prop), IterOf prog w A xv s₁ n P ∧ Fr h₀ env.locals s₁.heap m₀ ∧ News h₀ env.locals s₁.heap news ∧ J 0 m₀ ∧
      (∀ (kept : List (Addr × Obj)) (i : Nat) (v : Value) (h : Heap) (tk : Nat) (m : Str → Option Value) (E' : Value → Shared → Prop), i < n → P i v → J i m → Fr h₀ env.locals h (fun z => if z = x then some v else m z) → News h₀ env.locals h (news ++ kept) →
        wpAny (model prog w) A (execs body env) (fun f s' => f = .next ∧ ∃ h' tk' m', s' = { s₁ with heap := h', toks := tk' } ∧ Fr h₀ env.locals h' m' ∧ News h₀ env.locals h' (news ++ kept) ∧ J (i + 1) m') E' { s₁ with heap := h, toks := tk }) ∧
      (∀ h tk m, J n m → Fr h₀ env.locals h m → News h₀ env.locals h news → Q .next { s₁ with heap := h, toks := tk })) E s)
    (hs : ∀ x, foldedSetIterable iter env x = pure x := by intro _; rfl) :
    wpAny (model prog w) A (exec (.For (.Name x px) iter body [] pos) env) Q E s := by
  refine wpAny_For (wpAny_mono h (fun xv s₁ h₁ => ?_) fun _ _ e => e) hs
  obtain ⟨n, P, m₀, news, J, hit, F₀, N₀, hJ₀, turn, fin⟩ := h₁
  refine hit _ _ fun it h tk S => ?_
  obtain ⟨I, fp, wr, St, rfl, W, hwr, hsz, hst, hfp, hf, hl, k⟩ := S
  have hn₀ := F₀.ns
  have hLw : env.locals ∉ wr := off_wr hn₀ hf
  have hLf : env.locals ∉ fp := fun hm => by
    rcases hl _ hm with h1 | ⟨xs, h1⟩
    · exact hLw h1
    · obtain ⟨o, es, ep, ho, hd, _⟩ := hn₀
      obtain ⟨o', ho', _, c, hd'⟩ := h1
      rw [ho] at ho'
      cases ho'
      rw [hd] at hd'
      cases hd'
  have hw0 : ∀ b o, b ∈ wr → h₀.get? b = some o → False := fun b o hb e => by have := F₀.keep b o e; rw [hf b hb] at this; cases this
  have hwN : ∀ p ∈ news, p.1 ∉ wr := fun p hp hb => by have := (N₀ p hp).1; rw [hf _ hb] at this; cases this
  refine codeAny_forLoop (fun k s' => ∃ i h tk m, s' = { s₁ with heap := h, toks := tk } ∧ St i h ∧ Fr h₀ env.locals h m ∧ News h₀ env.locals h news ∧ J i m ∧ i ≤ n ∧ k = n + 1 - i) ?_ (n + 1)
    ⟨0, h, tk, m₀, rfl, hst, F₀.after k, news_after N₀ k, hJ₀, Nat.zero_le _, rfl⟩
  rintro k' s' ⟨i, h', tk', m, rfl, hst', F', N', hJ, hi, rfl⟩
  by_cases hlt : i < n
  · refine W.item i _ _ _ hlt hst' fun v h₁ tk₁ hPv hst₁ hk₁ => ?_
    have F₁ : Fr h₀ env.locals h₁ m := ⟨F'.ns.at' fun o e => hk₁ _ o hLw e, fun b o e => hk₁ b o (fun hb => hw0 b o hb e) (F'.keep b o e), F'.above⟩
    have N₁ : News h₀ env.locals h₁ news := fun p hp => ⟨hk₁ _ _ (hwN p hp) (N' p hp).1, (N' p hp).2⟩
    obtain ⟨kept, hK, hKm⟩ := kept_of (h₀ := h₀) (h := h₁) fp hLf
    refine wpAny_assign_Name (wpAny_storeName_local hx F₁.ns (fun h₂ hn₂ hs₂ => ?_) hp)
    refine wpAny_mono (turn kept i v h₂ _ m _ hlt hPv hJ (F₁.set hn₂ hs₂) ((news_append N₁ hK).set hs₂)) (fun f s₃ h₃ => ?_) fun _ _ e => e
    obtain ⟨rfl, h₄, tk₄, m₄, rfl, F₄, N₄, hJ₄⟩ := h₃
    refine ⟨n + 1 - (i + 1), by omega, i + 1, h₄, tk₄, m₄, rfl, ?_, F₄, news_left N₄, hJ₄, hlt, rfl⟩
    refine W.frame _ _ _ hst₁ fun b hb o e => ?_
    cases e0 : h₀.get? b with
    | none => exact (N₄ _ (List.mem_append_right _ (hKm b hb o e e0))).1
    | some o' =>
      have h1 := F₁.keep b o' e0
      rw [e] at h1
      cases h1
      exact F₄.keep b _ e0
  · have hin : i = n := by omega
    subst hin
    refine W.done _ _ _ hst' fun h₁ tk₁ hk₁ => wpAny_execs_nil ?_
    exact fin h₁ tk₁ m hJ ⟨F'.ns.at' fun o e => hk₁ _ o hLw e, fun b o e => hk₁ b o (fun hb => hw0 b o hb e) (F'.keep b o e), F'.above⟩ fun p hp => ⟨hk₁ _ _ (hwN p hp) (N' p hp).1, (N' p hp).2⟩
end
end Mine
namespace Mine
open PySem PySem.W PySem.Spec PySem.Calls PyProof.Rows
theorem fill_now : (fun (_ : OpenLaw) => hd.heap_39) PySem.Challenge.rw_nb0043_01 = hd.heap_39 := by
  k_fill
  rfl
local macro_rules | `(tactic| walk_at "go") => `(tactic| first | (k_unfold; (try dsimp only)) | ((with_reducible show wpAny _ _ _ _ _ _); first | walk1 | (dsimp only; walk1)))
/-- a number's figures to the base 16, as letters -/
def ap (n : Nat) : List UInt8 := if n = 0 then [] else ap (n / 16) ++ [(65 + n % 16).toUInt8]
termination_by n
decreasing_by omega
theorem ap_zero : ap 0 = [] := by rw [ap]; rfl
theorem ap_pos {n : Nat} (h : n ≠ 0) : ap n = ap (n / 16) ++ [(65 + n % 16).toUInt8] := by rw [ap, if_neg h]
theorem ap_length (k : Nat) : ∀ n, n < 16 ^ k → (ap n).length ≤ k := by
  induction k with
  | zero => intro n h; have : n = 0 := by omega
            subst this; rw [ap_zero]; simp
  | succ k ih =>
    intro n h
    by_cases h0 : n = 0
    · subst h0; rw [ap_zero]; simp
    · rw [ap_pos h0, List.length_append]
      have := ih (n / 16) (by rw [Nat.pow_succ] at h; omega)
      simp; omega

abbrev apB : Array UInt8 := #[65, 66, 67, 68, 69, 70, 71, 72, 73, 74, 75, 76, 77, 78, 79, 80]
theorem picked_all : ∀ m : Fin 16, KBy.picked apB (some (m.val : Int)) (some ((m.val : Int) + 1)) = #[(65 + m.val).toUInt8] ∧ KBy.whole apB (some (m.val : Int)) (some ((m.val : Int) + 1)) = false := by decide +kernel
theorem picked_at {n : Int} (h0 : 0 ≤ n) (h1 : n < 16) : KBy.picked apB (some n) (some (n + 1)) = #[(65 + n.toNat).toUInt8] ∧ KBy.whole apB (some n) (some (n + 1)) = false := by
  have := picked_all ⟨n.toNat, by omega⟩
  have e : ((n.toNat : Nat) : Int) = n := by omega
  simpa only [e] using this

/-- an int, or a float that tells one -/
def Tells (v : Value) (n : Nat) : Prop := (∃ x t, v = .int x t ∧ n = x.natAbs) ∨ (∃ b t m, v = .float b t ∧ Is b m 0 ∧ n = m.natAbs)

open PySem.Float64 in
theorem floor_is {b : Bool} {k : Nat} {e m : Int} (he : -1074 ≤ e) (h : sgn b (k * 2 ^ (e + 1074).toNat) = m * U) : floorOf b k e = m := by
  rw [sgn_pow2] at h
  unfold floorOf
  split
  · rename_i h0
    have e1 : (e + 1074).toNat = e.toNat + 1074 := by omega
    rw [e1, Int.pow_add, ← Int.mul_assoc, ← U_eq] at h
    exact Int.eq_of_mul_eq_mul_right (by have := U_pos; omega) h
  · rename_i h0
    have e1 : U = 2 ^ (-e).toNat * 2 ^ (e + 1074).toNat := by
      rw [U_eq, ← Int.pow_add]; congr 1; omega
    rw [e1, ← Int.mul_assoc] at h
    have h2 := Int.eq_of_mul_eq_mul_right (by have := two_pos (e + 1074).toNat; omega) h
    have p := two_pos (-e).toNat
    rw [h2, Int.fdiv_eq_ediv_of_nonneg _ (Int.le_of_lt p)]
    exact Int.mul_ediv_cancel _ (by omega)
open PySem.Float64 in
theorem trunc_is {x : UInt64} {m : Int} (h : Is x m 0) {a : Bool} {k : Nat} {e : Int} (d : decode x = .fin a k e) : truncOf a k e = m := by
  have he := decode_ge d
  have hv : sgn a (k * 2 ^ (e + 1074).toNat) = m * U := by
    have := h.eq
    rw [val_eq d, Int.pow_zero, Int.mul_one] at this
    exact this
  unfold truncOf
  split
  · unfold ceilOf
    have : floorOf (!a) k e = -m := floor_is he (by rw [sgn_not, hv, Int.neg_mul])
    rw [this, Int.neg_neg]
  · exact floor_is he hv

section
variable {prog : Program} {w : World} {A : Around} {E : Value → Shared → Prop} {s : Shared} {mg mb : Str → Option Value} {p : Program} {loose : List Str} {Q : Value → Shared → Prop}
set_option maxHeartbeats 4000000 in
theorem int2ap {v : Value} {n₀ : Nat} (hv : Tells v n₀) (X : (hd.heap_39 w.params).In s.heap) (T : TopRead p loose mg mb s.heap) (hh : A.handled = none) (hroom : A.depth < recursionLimit) (hlen : (ap n₀).length ≤ 1000)
    (hQ : ∀ h' tk u, Kp s.heap h' → Q (.bytes (ap n₀).toArray u) { s with heap := h', toks := tk }) :
    wpAny (model prog w) A (call (.ref 70) [v]) Q E s := by
  obtain ⟨hnd, dp, fr, gd, un⟩ := A
  cases (show hnd = none from hh)
  refine call_fn (binds := [("num", v)]) X T (by k_is) (by k_is) hroom (BindsTo.of_eq rfl) (locs rfl) (by decide) ?_
  intro L h₁ F N X' T'
  (try dsimp only)
  k_fold
  have enter : ∀ (c : Sem Flow) (Q' : Flow → Shared → Prop) (E' : Value → Shared → Prop) (A' : Around),
    (∀ h tk t1 t2 t3 rest, Fr s.heap L h (over [("num", .int (n₀ : Nat) t1), ("AP", .bytes apB t2), ("val", .bytes #[] t3)] rest) → wpAny (model prog w) A' c Q' E' { s with heap := h, toks := tk }) →
    ∀ h tk (x : Int) t1 t2 t3 (rest : Str → Option Value), x = n₀ → Fr s.heap L h (fun y => if y = Str.ofString "num" then some (.int x t1) else if y = Str.ofString "AP" then some (.bytes apB t2) else if y = Str.ofString "val" then some (.bytes #[] t3) else rest y) →
      wpAny (model prog w) A' c Q' E' { s with heap := h, toks := tk } := by
    intro c Q' E' A' hc h tk x t1 t2 t3 rest hx F
    subst hx
    exact hc h tk t1 t2 t3 _ (fr_over _ F ⟨rfl, rfl, rfl, trivial⟩)
  have up : ∀ {x : Int} {k : Nat}, x = (k : Int) → 0 ≤ x.fmod 16 ∧ x.fmod 16 < 16 ∧ x.fdiv 16 = ((k / 16 : Nat) : Int) ∧ (x.fmod 16).toNat = k % 16 := by
    intro x k e
    subst e
    refine ⟨Int.fmod_nonneg_of_pos _ (by decide), Int.fmod_lt_of_pos _ (by decide), ?_, ?_⟩
    · rw [Int.fdiv_eq_ediv_of_nonneg _ (by decide)]; omega
    · rw [Int.fmod_eq_emod_of_nonneg _ (by decide)]; omega
  rcases hv with ⟨x, t, rfl, hn⟩ | ⟨b, t, m, rfl, hb, hn⟩
  · repeat (fail_if_success (with_reducible show wpAny _ _ (exec (Stmt.While _ _ _ _) _) _ _ _)); walk_at "go"
    rename Fr _ _ _ _ => F9
    refine enter _ _ _ _ ?g1 _ _ _ _ _ _ _ ?g2 F9
    (case g2 => rw [hn]; split <;> omega)
    clear F9
    intro h tk t1 t2 t3 rest F
    refine wpAny_While (codeAny_whileLoop (fun k s' => ∃ h tk n acc t1 t2 t3 rest, s' = { s with heap := h, toks := tk } ∧ Fr s.heap L h (over [("num", .int (n : Nat) t1), ("AP", .bytes apB t2), ("val", .bytes acc t3)] rest) ∧
      ap n ++ acc.toList = ap n₀ ∧ k = n) ?_ n₀ ⟨h, tk, n₀, #[], t1, t2, t3, rest, rfl, F, by simp, rfl⟩)
    clear F
    rintro k s' ⟨h, tk, n, acc, t1, t2, t3, rest, rfl, F, hap, rfl⟩
    have N : News s.heap L h [] := News.nil
    have hacc : acc.size ≤ 1000 := by have := congrArg List.length hap; simp at this; omega
    iterate 3 walk1
    all_goals first | walk1 | skip
    · repeat (fail_if_success (with_reducible show wpAny _ _ (subscriptTail _ _ (Value.bytes _ _) _) _ _ _)); walk_at "go"
      rename Fr _ _ _ _ => F9
      rename News _ _ _ _ => N9
      obtain ⟨u1, u2, u3, u4⟩ := up (x := (k : Int)) rfl
      obtain ⟨g1, g2⟩ := picked_at u1 u2
      refine KBy.slice_N (s := ⟨_, _, _, _, _⟩) F9 N9 (IsPart.int _ _) (IsPart.int _ _) g2 (by rw [g1]; simp) ?_
      intro h8 t8 k8 F8 N8
      rw [g1]
      clear F9 N9
      repeat (fail_if_success (with_reducible show wpAny _ _ (binaryOp _ _ _) _ _ _)); walk_at "go"
      refine KBy.add_bytes (by simp; omega) ?_
      intro t7 k7
      repeat walk_at "go"
      rename Fr _ _ _ _ => F9
      rw [u3] at F9
      refine ⟨k / 16, by omega, _, _, k / 16, _, _, _, _, _, rfl, fr_over _ F9 ⟨rfl, rfl, rfl, trivial⟩, ?_, rfl⟩
      · rw [ap_pos (by omega)] at hap
        rw [u4, ← hap]
        simp
    · have hk : k = 0 := by omega
      subst hk
      rw [ap_zero, List.nil_append] at hap
      repeat walk_at "go"
      rename Fr _ _ _ _ => F9
      have hq := hQ h tk t3 F9.keep
      rw [← hap] at hq
      simpa using hq
  · repeat (fail_if_success (with_reducible show wpAny _ _ (call (Value.builtin _) _) _ _ _)); walk_at "go"
    refine PySem.Flt.call_abs_float ?_
    repeat (fail_if_success (with_reducible show wpAny _ _ (call (Value.type _) _) _ _ _)); walk_at "go"
    have ha := hb.abs
    obtain ⟨sg, mm, ee, hdec⟩ := fin_decode ha.fin
    refine call_int_float hdec ?_
    rw [trunc_is ha hdec, ← hn]
    repeat (fail_if_success (with_reducible show wpAny _ _ (exec (Stmt.While _ _ _ _) _) _ _ _)); walk_at "go"
    rename Fr _ _ _ _ => F9
    refine enter _ _ _ _ ?_ _ _ _ _ _ _ _ rfl F9
    clear F9
    intro h tk t1 t2 t3 rest F
    refine wpAny_While (codeAny_whileLoop (fun k s' => ∃ h tk n acc t1 t2 t3 rest, s' = { s with heap := h, toks := tk } ∧ Fr s.heap L h (over [("num", .int (n : Nat) t1), ("AP", .bytes apB t2), ("val", .bytes acc t3)] rest) ∧
      ap n ++ acc.toList = ap n₀ ∧ k = n) ?_ n₀ ⟨h, tk, n₀, #[], t1, t2, t3, rest, rfl, F, by simp, rfl⟩)
    clear F
    rintro k s' ⟨h, tk, n, acc, t1, t2, t3, rest, rfl, F, hap, rfl⟩
    have N : News s.heap L h [] := News.nil
    have hacc : acc.size ≤ 1000 := by have := congrArg List.length hap; simp at this; omega
    iterate 3 walk1
    all_goals first | walk1 | skip
    · repeat (fail_if_success (with_reducible show wpAny _ _ (subscriptTail _ _ (Value.bytes _ _) _) _ _ _)); walk_at "go"
      rename Fr _ _ _ _ => F9
      rename News _ _ _ _ => N9
      obtain ⟨u1, u2, u3, u4⟩ := up (x := (k : Int)) rfl
      obtain ⟨g1, g2⟩ := picked_at u1 u2
      refine KBy.slice_N (s := ⟨_, _, _, _, _⟩) F9 N9 (IsPart.int _ _) (IsPart.int _ _) g2 (by rw [g1]; simp) ?_
      intro h8 t8 k8 F8 N8
      rw [g1]
      clear F9 N9
      repeat (fail_if_success (with_reducible show wpAny _ _ (binaryOp _ _ _) _ _ _)); walk_at "go"
      refine KBy.add_bytes (by simp; omega) ?_
      intro t7 k7
      repeat walk_at "go"
      rename Fr _ _ _ _ => F9
      rw [u3] at F9
      refine ⟨k / 16, by omega, _, _, k / 16, _, _, _, _, _, rfl, fr_over _ F9 ⟨rfl, rfl, rfl, trivial⟩, ?_, rfl⟩
      · rw [ap_pos (by omega)] at hap
        rw [u4, ← hap]
        simp
    · have hk : k = 0 := by omega
      subst hk
      rw [ap_zero, List.nil_append] at hap
      repeat walk_at "go"
      rename Fr _ _ _ _ => F9
      have hq := hQ h tk t3 F9.keep
      rw [← hap] at hq
      simpa using hq
end
end Mine
namespace Mine
open PySem PySem.W PySem.Spec PySem.Calls PyProof.Rows
theorem fill_WO : (fun (_ : OpenLaw) => hd.heap_39) PySem.Challenge.rw_nb0043_01 = hd.heap_39 := by
  k_fill
  rfl
local macro_rules | `(tactic| walk_at "go") => `(tactic| first | (k_unfold; (try dsimp only)) | ((with_reducible show wpAny _ _ _ _ _ _); first | walk1 | (dsimp only; walk1)))
theorem ints_append : ∀ {vs us : List Value} {ns ms : List Int}, IntsAre vs ns → IntsAre us ms → IntsAre (vs ++ us) (ns ++ ms)
  | _, _, _, _, .nil, h => h
  | _, _, _, _, .cons n t h, h' => .cons n t (ints_append h h')
/-- the weights of p places -/
def worths (p : Nat) : List Int := (List.range p).map (fun j => 15 * 16 ^ (p - 1 - j)) ++ [1]
section
variable {prog : Program} {w : World} {A : Around} {E : Value → Shared → Prop} {s : Shared} {mg mb : Str → Option Value} {p : Program} {loose : List Str} {Q : Value → Shared → Prop}
set_option maxHeartbeats 4000000 in
theorem worths_call {n : Nat} {t : Tok} (X : (hd.heap_39 w.params).In s.heap) (T : TopRead p loose mg mb s.heap) (hh : A.handled = none) (hroom : A.depth < recursionLimit) (hn : n ≤ 12)
    (hQ : ∀ D vs h' tk, Kp s.heap h' → s.heap.get? D = none → h'.PlainList D vs.toArray → IntsAre vs (worths n) → Q (.ref D) { s with heap := h', toks := tk }) :
    wpAny (model prog w) A (call (.ref 82) [.int (n : Nat) t]) Q E s := by
  obtain ⟨hnd, dp, fr, gd, un⟩ := A
  cases (show hnd = none from hh)
  refine call_fn (binds := [("places", .int (n : Nat) t)]) X T (by k_is) (by k_is) hroom (BindsTo.of_eq rfl) (locs rfl) (by decide) ?_
  intro L h₁ F N X' T'
  (try dsimp only)
  k_fold
  repeat (fail_if_success (with_reducible show wpAny _ _ (eval (Expr.ListComp _ _ _ _) _) _ _ _)); walk_at "go"
  refine lcomp (fun i _ y own => own = [] ∧ ∃ u, y = .int (15 * 16 ^ (n - 1 - i)) u) rfl rfl (by decide) (by decide) rfl ?_
  repeat walk_at "go"
  rename IsRange _ _ _ _ _ _ _ _ => hr
  rename Fr _ _ _ _ => F9
  rename News _ _ _ _ => N9
  have hrs : ∀ k : Fin 13, Builtin.Range.small ((k.val : Int) - 1) (-1) (-1) = true ∧ Builtin.Range.rangeSize ((k.val : Int) - 1) (-1) (-1) = (k.val : Int) := by decide +kernel
  have hrn := hrs ⟨n, by omega⟩
  refine ⟨n, _, iter_range rfl hr hrn.1 hrn.2 (by omega), ?body, ?done⟩
  case body =>
    intro C i v h tk m E' hC hi hP hn' hm hk
    obtain ⟨u, rfl⟩ := hP
    have e : ((n : Int) - 1 + (i : Int) * -1) = ((n - 1 - i : Nat) : Int) := by omega
    rw [e] at hm
    refine wpAny_BinOp (wpAny_Constant_int (wpAny_BinOp (wpAny_Constant_int (n_local hn' hm (pow16 (by omega) (mul_int ?_ ?_))))))
    · exact ⟨_, _, [], rfl, Kp.refl _, ⟨rfl, _, rfl⟩, Made.nil⟩
    · exact IntMulOk.of_left (by decide)
  case done =>
    intro D h' tk' ys owns hD hpl hrow hoff hk
    obtain ⟨c, hc⟩ := hpl
    have F2 := F9.after hk
    have N2 := news_add F9 N9 hk hD hc
    have hI := rows_ints hrow (fun i => 15 * 16 ^ (n - 1 - i)) fun i v y own _ _ hF => hF.2
    clear F9 N9
    repeat walk_at "go"
    rename Fr _ _ _ _ => F9
    rename News _ _ _ _ => N9
    have hl1 := N9.isList (List.Mem.tail _ (List.Mem.head _))
    have hl2 := N9.isList (List.Mem.head _)
    have hlen := hI.length
    refine add_arrays F9 N9 hl1 hl2 ?_ (by rw [sizeLine_eq]; simp at hlen ⊢; omega)
    intro h9 F8 N8
    repeat walk_at "go"
    have hN := N8 _ (List.Mem.head _)
    exact hQ _ _ h9 _ F8.keep hN.2.2 ⟨_, hN.1⟩ (ints_append hI (IntsAre.cons 1 _ IntsAre.nil))
end
end Mine
namespace Mine
open PySem PySem.W PySem.Spec PySem.Calls PyProof.Rows
theorem fill_FM : (fun (_ : OpenLaw) => hd.heap_39) PySem.Challenge.rw_nb0043_01 = hd.heap_39 := by
  k_fill
  rfl
local macro_rules | `(tactic| walk_at "go") => `(tactic| first | (k_unfold; (try dsimp only)) | ((with_reducible show wpAny _ _ _ _ _ _); first | walk1 | (dsimp only; walk1)) | (refine PySem.W.ite_neg Bool.false_ne_true ?_) | (refine PySem.W.ite_pos rfl ?_))
section
variable {prog : Program} {w : World} {A : Around} {E : Value → Shared → Prop} {s : Shared} {K : Frag} {mg mb : Str → Option Value} {p : Program} {loose : List Str}
  {Q : Value → Shared → Prop} {name qual : Str} {params : Arguments} {body : List Stmt} {scope : Scope} {dV kV doc pm cdv ct oc : Value} {an od : Option Addr} {osl : Array (Option Value)} {f : Addr} {args : List Value} {kw : List (Str × Value)} {binds : List (Str × Value)}

/-- a def of the text some of whose names are cells, called -/
theorem call_fnC (X : K.In s.heap) (T : TopRead p loose mg mb s.heap)
    (ho : K.lookup f = some ⟨oc, od, .func (fnOf name qual params body scope dV kV doc pm an cdv ct), osl⟩) (hcd : codeIn K cdv qual = true) (hroom : A.depth < recursionLimit)
    (hbind : BindsTo s (fnOf name qual params body scope dV kV doc pm an cdv ct) ⟨args, kw⟩ binds) (hkind : (binds.all fun y => scope.names.lookup y.1 == some .local || scope.names.lookup y.1 == some .cell) = true)
    (hnd : ((cellsFrom 0 scope.names []).map (·.1)).Nodup)
    (h : ∀ L h₁ tk cells, Fr s.heap L h₁ (bindL (envOfC qual scope L f cdv).kindOf binds fun _ => none) → News s.heap L h₁ cells → CellsAre (bindC (envOfC qual scope L f cdv).kindOf binds fun _ => none) (cellsFrom (L + 1) scope.names []) cells → K.In s.heap → TopRead p loose mg mb s.heap →
      wpAny (model prog w) (A.deeper (envOfC qual scope L f cdv)) (execs body (envOfC qual scope L f cdv))
        (fun fl s' => Q (match fl with | .ret v => v | _ => .none) s') (fun _ _ => False) { s with heap := h₁, toks := tk })
    (hco : scope.isCoroutine = false := by rfl) (hgen : scope.isGenerator = false := by rfl) (hk : scope.kind = .function := by rfl) :
    wpAny (model prog w) A (call (.ref f) args kw) Q E s := by
  refine wpAny_call (codeAny_call_function (fd := fnOf name qual params body scope dV kV doc pm an cdv ct) hroom (X _ _ ho) rfl hco hgen rfl (codeRec_of X hcd) (hbind _ _ _ _ ?_))
  refine wpAny_newFunctionEnv_cells hk (kindsX hkind _) fun env' he s' x => ?_
  subst he
  refine ⟨T.nolimit.keeps x.toInCall.keep, codeAny_func ?_⟩
  obtain ⟨h₁, tk, rfl, _⟩ := x.done
  have hk₁ := x.toInCall.keep
  obtain ⟨cells, NC, Y⟩ := Cl.news (h₀ := s.heap) (Nat.le_refl _) fun n c hm => ⟨x.cell n c (lookup_of_mem_nodup (cellsFrom_names scope.names 0 (s.heap.objs.size + 1) [] [] rfl ▸ hnd) hm), x.above n c hm⟩
  exact wpAny_mono (h s.heap.objs.size h₁ tk cells ⟨x.toInCall.ns, hk₁, Nat.le_refl _⟩ NC Y X T) (fun _ _ x => x) fun _ _ y => y.elim
end
section
variable {prog : Program} {w : World} {A : Around} {E : Value → Shared → Prop} {s : Shared} {Q : Value → Shared → Prop}
theorem isi_lt {l tp : Addr} {xs : Array Value} (hl : s.heap.IsList l xs) (ht : s.heap.get? tp = some { cls := .type "tuple", data := .seq #[.type "list", .type "tuple"] }) (h : ∀ tk, Q (.bool true) { s with toks := tk }) :
    wpAny (model prog w) A (call (.builtin "isinstance") [.ref l, .ref tp]) Q E s :=
  IsiPair.tupleOf (cs := [.type "list", .type "tuple"]) (vs := [true, false]) ⟨Answers.of_true PySem.F.isi_meta_list PySem.F.sub_list_list, Answers.of_false_list (by decide +kernel) PySem.F.isi_meta_tuple PySem.F.sub_list_tuple, trivial⟩ hl.typeIs ht h
end
theorem isList_kp {h h' : Heap} {l : Addr} {xs : Array Value} (x : h.IsList l xs) (k : Kp h h') : h'.IsList l xs := let ⟨o, ho, r⟩ := x; ⟨o, k _ _ ho, r⟩
/-- a number as math.sumprod gives it: N / 2^e -/
def NumIs (v : Value) (N : Int) (e : Nat) : Prop := (∃ t, v = .int N t ∧ e = 0 ∧ N.natAbs ≤ 2 ^ 53) ∨ (∃ x t, v = .float x t ∧ Is x N e)
def SumP (prog : Program) (w : World) (d wt : Addr) (h : Heap) (N : Int) (e : Nat) : Prop :=
  ∀ (A : Around) (s : Shared) (Q E : Value → Shared → Prop), A.handled = none → Kp h s.heap → (∀ v h' tk, Kp s.heap h' → NumIs v N e → Q v { s with heap := h', toks := tk }) → wpAny (model prog w) A (call (.builtin "math.sumprod") [.ref d, .ref wt]) Q E s
section
variable {prog : Program} {w : World} {A : Around} {E : Value → Shared → Prop} {s : Shared} {mg mb : Str → Option Value} {p : Program} {loose : List Str} {Q : Value → Shared → Prop}
set_option maxHeartbeats 4000000 in
theorem fmean_w {d wt : Addr} {xs : Array Value} {vs : List Value} {ns : List Int} {N r : Int} {e g : Nat} (X : (hd.heap_39 w.params).In s.heap) (T : TopRead p loose mg mb s.heap) (hh : A.handled = none) (hroom : A.depth < recursionLimit)
    (hd' : s.heap.IsList d xs) (hw : s.heap.IsList wt vs.toArray) (hI : IntsAre vs ns) (hsp : SumP prog w d wt s.heap N e)
    (hb : ∀ i, i ≤ ns.length → (ns.take i).sum.natAbs ≤ 2 ^ 53) (hb' : ∀ n ∈ ns, n.natAbs ≤ 2 ^ 53) (hW : ns.sum ≠ 0) (hr : N * 2 ^ g = r * ns.sum * 2 ^ e) (hg : g ≤ 1074) (hrb : r.natAbs ≤ 2 ^ 53)
    (hQ : ∀ h' tk x u, Kp s.heap h' → Is x r g → Q (.float x u) { s with heap := h', toks := tk }) :
    wpAny (model prog w) A (call (.ref 63) [.ref d] [("weights", .ref wt)]) Q E s := by
  obtain ⟨hnd, dp, fr, gd, un⟩ := A
  cases (show hnd = none from hh)
  refine call_fnC (binds := [("data", .ref d), ("weights", .ref wt)]) X T (by k_is) (by k_is) hroom (binds_K X rfl (by k_is) rfl rfl rfl) rfl (by decide +kernel) ?_
  intro L h₁ tk₁ cells FF NN Y X' T'
  k_cells Y
  (try dsimp only)
  (with_reducible show wpAny _ _ _ _ _ _)
  k_fold
  repeat walk_at "go"
  rename Fr _ _ _ _ => F9
  rename News _ _ _ _ => N9
  refine isi_lt (isList_kp hw F9.keep) (N9.get (List.Mem.head _)) fun tk2 => ?_
  repeat (fail_if_success (with_reducible show wpAny _ _ (exec (Stmt.Try _ _ _ _ _) _) _ _ _)); walk_at "go"
  refine wpAny_Try_except ?_
  repeat (fail_if_success (with_reducible show wpAny _ _ (call (Value.builtin "math.sumprod") _) _ _ _)); walk_at "go"
  rename Fr _ _ _ _ => F9
  rename News _ _ _ _ => N9
  refine hsp _ _ _ _ rfl F9.keep fun v h4 tk4 k4 hv => ?_
  replace F9 := F9.after k4
  replace N9 := news_after N9 k4
  repeat (fail_if_success (with_reducible show wpAny _ _ (call (Value.builtin "math.fsum") _) _ _ _)); walk_at "go"
  rename Fr _ _ _ _ => F9
  rename News _ _ _ _ => N9
  refine call_fsum rfl (isList_kp hw F9.keep) hI hb hb' fun h5 tk5 x5 t5 hx5 k5 => ?_
  replace F9 := F9.after k5
  replace N9 := news_after N9 k5
  have hz : Float64.isZero x5 = false := by rw [hx5.isZero]; simp [hW]
  repeat (fail_if_success (with_reducible show wpAny _ _ (truthy _) _ _ _)); walk_at "go"
  refine truthy_float ?_
  rw [hz]
  repeat (fail_if_success (with_reducible show wpAny _ _ (binaryOp _ _ _) _ _ _)); walk_at "go"
  rename Fr _ _ _ _ => F9
  rcases hv with ⟨t, rfl, rfl, hN⟩ | ⟨x, t, rfl, hx⟩
  · refine PySem.Flt.truediv_if rfl (fun ho => absurd ho (not_over hN)) (fun _ hz' => absurd hz' (by rw [hz]; exact Bool.false_ne_true)) fun _ _ => ?_
    repeat walk_at "go"
    exact hQ _ _ _ _ F9.keep ((is_ofInt hN).div hx5 hW (by simpa using hr) hg hrb)
  · refine AutoFloatOps.truediv_1 (by rw [hz]; exact Bool.false_ne_true) ?_
    repeat walk_at "go"
    exact hQ _ _ _ _ F9.keep (hx.div hx5 hW (by simpa using hr) hg hrb)

set_option maxHeartbeats 4000000 in
theorem fmean_0 {d : Addr} {vs : List Value} {ns : List Int} {r : Int} {g : Nat} (X : (hd.heap_39 w.params).In s.heap) (T : TopRead p loose mg mb s.heap) (hh : A.handled = none) (hroom : A.depth < recursionLimit)
    (hw : s.heap.IsList d vs.toArray) (hI : IntsAre vs ns) (hlen : 0 < ns.length ∧ ns.length ≤ 1000)
    (hb : ∀ i, i ≤ ns.length → (ns.take i).sum.natAbs ≤ 2 ^ 53) (hb' : ∀ n ∈ ns, n.natAbs ≤ 2 ^ 53) (hr : ns.sum * 2 ^ g = r * ns.length) (hg : g ≤ 1074) (hrb : r.natAbs ≤ 2 ^ 53)
    (hQ : ∀ h' tk x u, Kp s.heap h' → Is x r g → Q (.float x u) { s with heap := h', toks := tk }) :
    wpAny (model prog w) A (call (.ref 63) [.ref d]) Q E s := by
  obtain ⟨hnd, dp, fr, gd, un⟩ := A
  cases (show hnd = none from hh)
  refine call_fnC (binds := [("data", .ref d), ("weights", .none)]) X T (by k_is) (by k_is) hroom (binds_K X rfl (by k_is) rfl rfl rfl) rfl (by decide +kernel) ?_
  intro L h₁ tk₁ cells FF NN Y X' T'
  k_cells Y
  (try dsimp only)
  (with_reducible show wpAny _ _ _ _ _ _)
  k_fold
  repeat (fail_if_success (with_reducible show wpAny _ _ (exec (Stmt.Try _ _ _ _ _) _) _ _ _)); walk_at "go"
  refine wpAny_Try_except ?_
  repeat (fail_if_success (with_reducible show wpAny _ _ (call (Value.builtin "math.fsum") _) _ _ _)); walk_at "go"
  rename Fr _ _ _ _ => F9
  rename News _ _ _ _ => N9
  refine call_fsum rfl (isList_kp hw F9.keep) hI hb hb' fun h5 tk5 x5 t5 hx5 k5 => ?_
  replace F9 := F9.after k5
  replace N9 := news_after N9 k5
  have hnz : (ns.length : Int) ≠ 0 := by omega
  have hsm : ((ns.length : Nat) : Int).natAbs ≤ 2 ^ 53 := by omega
  repeat (fail_if_success (with_reducible show wpAny _ _ (truthy _) _ _ _)); walk_at "go"
  refine truthy_int ?_
  rw [show (((ns.length : Nat) : Int) != 0) = true from by simpa using hnz]
  repeat (fail_if_success (with_reducible show wpAny _ _ (binaryOp _ _ _) _ _ _)); walk_at "go"
  rename Fr _ _ _ _ => F9
  refine PySem.Flt.truediv_fi rfl (fun ho => absurd ho (not_over hsm)) (fun h0 => absurd h0 hnz) fun _ _ => ?_
  repeat walk_at "go"
  exact hQ _ _ _ _ F9.keep (hx5.div (is_ofInt hsm) hnz (by simpa using hr) hg hrb)
end
end Mine
namespace Mine
open PySem PySem.W PySem.Spec PySem.Calls PyProof.Rows
theorem fill_ME : (fun (_ : OpenLaw) => hd.heap_39) PySem.Challenge.rw_nb0043_01 = hd.heap_39 := by
  k_fill
  rfl
local macro_rules | `(tactic| walk_at "go") => `(tactic| first | (k_unfold; (try dsimp only)) | ((with_reducible show wpAny _ _ _ _ _ _); first | walk1 | (dsimp only; walk1)) | ((with_reducible show Frag.In _ _ ∧ _); refine ⟨by k_in, ?_⟩; try dsimp only [List.nil_append, List.cons_append]) | (refine PySem.W.ite_neg Bool.false_ne_true ?_) | (refine PySem.W.ite_pos rfl ?_))
theorem Kp.trans' {a b c : Heap} (x : ∀ (d : Addr) (o : Obj), a.get? d = some o → b.get? d = some o) (y : Kp b c) : Kp a c := Kp.trans x y
theorem worths_facts : ∀ n : Fin 13, (worths n.val).sum = 16 ^ n.val ∧ (∀ i : Fin 15, ((worths n.val).take i.val).sum.natAbs ≤ 2 ^ 53) ∧ (∀ x ∈ worths n.val, x.natAbs ≤ 2 ^ 53) ∧ (worths n.val).length = n.val + 1 := by decide +kernel
section
variable {prog : Program} {w : World} {A : Around} {E : Value → Shared → Prop} {s : Shared} {mg mb : Str → Option Value} {p : Program} {loose : List Str} {Q : Value → Shared → Prop}
set_option maxHeartbeats 4000000 in
theorem mean_call {l : Addr} {vs : List Value} {N r : Int} {e g : Nat} (X : (hd.heap_39 w.params).In s.heap) (T : TopRead p loose mg mb s.heap) (hh : A.handled = none) (hroom : A.depth + 1 < recursionLimit)
    (hl : s.heap.IsList l vs.toArray) (hn : vs.length ≤ 12)
    (hsum : ∀ d wt t ws h, h.IsList d (vs ++ [Value.int 0 t]).toArray → h.IsList wt ws.toArray → IntsAre ws (worths vs.length) → SumP prog w d wt h N e)
    (hr : N * 2 ^ g = r * 16 ^ vs.length * 2 ^ e) (hg : g ≤ 1074) (hrb : r.natAbs ≤ 2 ^ 53)
    (hQ : ∀ h' tk x u, Kp s.heap h' → Is x r g → Q (.float x u) { s with heap := h', toks := tk }) :
    wpAny (model prog w) A (call (.ref 89) [.ref l]) Q E s := by
  obtain ⟨hnd, dp, fr, gd, un⟩ := A
  cases (show hnd = none from hh)
  obtain ⟨w1, w2, w3, w4⟩ := worths_facts ⟨vs.length, by omega⟩
  dsimp only at w1 w2 w3 w4
  refine call_fn (binds := [("figures", .ref l)]) X T (by k_is) (by k_is) (Nat.lt_of_succ_lt hroom) (BindsTo.of_eq rfl) (locs rfl) (by decide) ?_
  intro L h₁ F N X' T'
  (try dsimp only)
  (with_reducible show wpAny _ _ _ _ _ _)
  k_fold
  repeat (fail_if_success (with_reducible show wpAny _ _ (binaryOp _ _ _) _ _ _)); walk_at "go"
  rename Fr _ _ _ _ => F9
  rename News _ _ _ _ => N9
  refine add_arrays F9 N9 (isList_kp hl F9.keep) (N9.isList (List.Mem.head _)) ?_ (by rw [sizeLine_eq]; simp; omega)
  intro h9 F8 N8
  clear F9 N9
  repeat (fail_if_success (with_reducible show wpAny _ _ (call (Value.builtin "len") _) _ _ _)); walk_at "go"
  refine PySem.Calls.call_len_list (isList_kp hl F8.keep) (by simp; omega) ?_
  repeat (fail_if_success (with_reducible show wpAny _ _ (call (Value.ref 82) _) _ _ _)); walk_at "go"
  rename Fr _ _ _ _ => F9
  rename News _ _ _ _ => N9
  rw [List.size_toArray]
  refine' worths_call ?x1 ?x2 ?e1 ?e2 hn ?e3
  (case x1 => exact X'.keeps F9.keep)
  (case x2 => exact T'.keeps F9.keep)
  (case e1 => exact rfl)
  (case e2 => exact hroom)
  intro D ws h7 tk7 k7 hD7 hpl7 hI7
  obtain ⟨c7, hc7⟩ := hpl7
  replace N9 := news_add F9 N9 k7 hD7 hc7
  replace F9 := F9.after k7
  repeat (fail_if_success (with_reducible show wpAny _ _ (call (Value.ref 63) _ _) _ _ _)); walk_at "go"
  rename Fr _ _ _ _ => F9
  rename News _ _ _ _ => N9
  have hW := N9.isList (List.Mem.head _)
  have hD := N9.isList (List.Mem.tail _ (List.Mem.head _))
  refine' fmean_w ?x1 ?x2 ?e1 ?e2 ?x3 ?x4 hI7 ?x5 ?_ w3 ?_ ?_ hg hrb ?_
  (case x1 => exact X'.keeps F9.keep)
  (case x2 => exact T'.keeps F9.keep)
  (case x3 => exact hD)
  (case x4 => exact hW)
  (case x5 => exact hsum _ _ _ _ _ (by simpa using hD) hW hI7)
  (case e1 => exact rfl)
  (case e2 => exact hroom)
  · intro i hi
    exact w2 ⟨i, by omega⟩
  · rw [w1]
    have := pow16_le vs.length (by omega)
    omega
  · rw [w1]; exact hr
  · intro h' tk x u hk hx
    repeat walk_at "go"
    exact hQ _ _ _ _ (Kp.trans' F9.keep hk) hx
end
end Mine
namespace Mine
open PySem PySem.W PySem.Spec PySem.Calls PyProof.Rows
theorem fill_WR : (fun (_ : OpenLaw) => hd.heap_39) PySem.Challenge.rw_nb0043_01 = hd.heap_39 := by
  k_fill
  rfl
local macro_rules | `(tactic| walk_at "go") => `(tactic| first | (k_unfold; (try dsimp only)) | ((with_reducible show wpAny _ _ _ _ _ _); first | walk1 | (dsimp only; walk1)) | ((with_reducible show Frag.In _ _ ∧ _); refine ⟨by k_in, ?_⟩; try dsimp only [List.nil_append, List.cons_append]) | (refine PySem.W.ite_neg Bool.false_ne_true ?_) | (refine PySem.W.ite_pos rfl ?_))
open PySem.Float64 in
/-- an exact product, told in any form -/
theorem Is.mulTo {x y : UInt64} {m n r : Int} {e f g : Nat} (hx : Is x m e) (hy : Is y n f) (hr : m * n * 2 ^ g = r * 2 ^ e * 2 ^ f) (hg : g ≤ 1074) (h : r.natAbs ≤ 2 ^ 53) : Is (Float64.mul x y) r g := by
  obtain ⟨a, k, i, dx⟩ := fin_decode hx.fin
  obtain ⟨b, l, j, dy⟩ := fin_decode hy.fin
  have R := mul_right dx dy
  have hv : val x * val y = (r * 2 ^ (1074 - g)) * U := by
    have p1 := two_pos e
    have p2 := two_pos f
    have p3 := two_pos g
    have hu := U_split hg
    have h1 : val x * val y * (2 ^ e * 2 ^ f * 2 ^ g) = (r * 2 ^ (1074 - g)) * U * (2 ^ e * 2 ^ f * 2 ^ g) := by
      have hx' := hx.eq
      have hy' := hy.eq
      generalize (2 : Int) ^ e = P at *
      generalize (2 : Int) ^ f = R at *
      generalize (2 : Int) ^ g = S at *
      generalize (2 : Int) ^ (1074 - g) = T at *
      calc val x * val y * (P * R * S) = (val x * P) * (val y * R) * S := by ac_rfl
        _ = (m * U) * (n * U) * S := by rw [hx', hy']
        _ = (m * n * S) * U * U := by ac_rfl
        _ = (r * P * R) * U * U := by rw [hr]
        _ = (r * P * R) * U * (T * S) := by rw [← hu]
        _ = (r * T) * U * (P * R * S) := by ac_rfl
    refine Int.eq_of_mul_eq_mul_right ?_ h1
    have := Int.mul_pos (Int.mul_pos p1 p2) p3
    omega
  have hn : (val x).natAbs * (val y).natAbs = 2 ^ 1074 * (r.natAbs * 2 ^ (1074 - g)) := by
    rw [← Int.natAbs_mul, hv, Int.natAbs_mul, natAbs_U, natAbs_pow2, Nat.mul_comm]
  have := right_exact (q := r.natAbs) (k := 1074 - g) R (Nat.two_pow_pos _) hn h (by omega)
  refine Is.of_val this.1 hg ?_
  rw [this.2]
  have h3 : sgn (a != b) (r.natAbs * 2 ^ (1074 - g)) * U = (r * 2 ^ (1074 - g)) * U := by
    rw [← hv, U_nat, ← sgn_mul, Nat.mul_comm, ← hn, sgn_xor, ← val_self dx, ← val_self dy]
  exact Int.eq_of_mul_eq_mul_right (by have := U_pos; omega) h3
theorem pow16_two (n : Nat) : (16 : Int) ^ n = 2 ^ (4 * n) := by
  rw [Int.pow_mul]; rfl
section
variable {prog : Program} {w : World} {A : Around} {E : Value → Shared → Prop} {s : Shared} {mg mb : Str → Option Value} {p : Program} {loose : List Str} {Q : Value → Shared → Prop}
set_option maxHeartbeats 4000000 in
theorem written_call {l : Addr} {vs : List Value} {N V parts : Int} {e : Nat} {t : Tok} (X : (hd.heap_39 w.params).In s.heap) (T : TopRead p loose mg mb s.heap) (hh : A.handled = none) (hroom : A.depth + 2 < recursionLimit)
    (hl : s.heap.IsList l vs.toArray) (hn : vs.length ≤ 12)
    (hsum : ∀ d wt t ws h, h.IsList d (vs ++ [Value.int 0 t]).toArray → h.IsList wt ws.toArray → IntsAre ws (worths vs.length) → SumP prog w d wt h N e)
    (he : e ≤ 4) (hN : N.natAbs ≤ 2 ^ 53) (hp : parts.natAbs ≤ 2 ^ 53) (hNp : (N * parts).natAbs ≤ 2 ^ 53) (hV : N * parts = V * 15 * 2 ^ e) (hVb : V.natAbs < 16 ^ 12)
    (hQ : ∀ h' tk u, Kp s.heap h' → Q (.bytes (ap V.natAbs).toArray u) { s with heap := h', toks := tk }) :
    wpAny (model prog w) A (call (.ref 96) [.ref l, .int parts t]) Q E s := by
  obtain ⟨hnd, dp, fr, gd, un⟩ := A
  cases (show hnd = none from hh)
  have hroom' : dp + 2 < recursionLimit := hroom
  refine call_fn (binds := [("figures", .ref l), ("parts", .int parts t)]) X T (by k_is) (by k_is) (show dp < recursionLimit by omega) (BindsTo.of_eq rfl) (locs rfl) (by decide) ?_
  intro L h₁ F N' X' T'
  (try dsimp only)
  (with_reducible show wpAny _ _ _ _ _ _)
  k_fold
  repeat (fail_if_success (with_reducible show wpAny _ _ (call (Value.ref 89) _) _ _ _)); walk_at "go"
  rename Fr _ _ _ _ => F9
  rename News _ _ _ _ => N9
  refine' mean_call (N := N) (e := e) (r := N) (g := 4 * vs.length + e) ?x1 ?x2 ?e1 ?e2 ?x3 hn hsum ?x4 (by omega) hN ?_
  (case x1 => exact X'.keeps F9.keep)
  (case x2 => exact T'.keeps F9.keep)
  (case e1 => exact rfl)
  (case e2 => exact hroom')
  (case x3 => exact isList_kp hl F9.keep)
  (case x4 => rw [pow16_two, Int.mul_assoc, ← Int.pow_add])
  intro h5 tk5 x5 u5 k5 hx5
  replace F9 := F9.after k5
  replace N9 := news_after N9 k5
  repeat (fail_if_success (with_reducible show wpAny _ _ (call (Value.builtin "len") _) _ _ _)); walk_at "go"
  refine PySem.Calls.call_len_list (isList_kp hl F9.keep) (by simp; omega) ?_
  rw [List.size_toArray]
  repeat (fail_if_success (with_reducible show wpAny _ _ (binaryOp _ _ _) _ _ _)); walk_at "go"
  refine pow16 (by omega) ?_
  have hp16 := pow16_le vs.length (by omega)
  have hb16 : ((16 : Int) ^ vs.length).natAbs ≤ 2 ^ 53 := by omega
  repeat (fail_if_success (with_reducible show wpAny _ _ (binaryOp _ _ _) _ _ _)); walk_at "go"
  have hbig : (2 : Nat) ^ 53 < 2 ^ 1023 := Nat.pow_lt_pow_right (by decide) (by decide)
  refine mul_fi_fits (by omega) ?_
  have y1 : Is _ N e := hx5.mulTo (is_ofInt hb16) (r := N) (g := e) (by rw [pow16_two, Int.pow_zero, Int.mul_one, Int.mul_assoc, ← Int.pow_add]) (by omega) hN
  repeat (fail_if_success (with_reducible show wpAny _ _ (binaryOp _ _ _) _ _ _)); walk_at "go"
  refine mul_fi_fits (by omega) ?_
  have y2 : Is _ (N * parts) e := y1.mul (is_ofInt hp) (by omega) hNp
  repeat (fail_if_success (with_reducible show wpAny _ _ (binaryOp _ _ _) _ _ _)); walk_at "go"
  refine PySem.Flt.truediv_fi rfl (fun ho => absurd ho (not_over (by decide))) (fun h0 => absurd h0 (by decide)) fun _ _ => ?_
  have hVs : V.natAbs ≤ 2 ^ 53 := by
    have : (16 : Nat) ^ 12 ≤ 2 ^ 53 := by decide
    omega
  have y3 : Is _ V 0 := y2.div (is_ofInt (i := 15) (by decide)) (r := V) (g := 0) (by decide) (by rw [Int.pow_zero, Int.mul_one, Int.mul_one]; exact hV) (by omega) hVs
  repeat (fail_if_success (with_reducible show wpAny _ _ (call (Value.ref 70) _) _ _ _)); walk_at "go"
  rename Fr _ _ _ _ => F9
  refine' int2ap (n₀ := V.natAbs) (.inr ⟨_, _, V, rfl, y3, rfl⟩) ?x1 ?x2 ?e1 ?e2 (Nat.le_trans (ap_length 12 _ hVb) (by decide)) ?_
  (case x1 => exact X'.keeps F9.keep)
  (case x2 => exact T'.keeps F9.keep)
  (case e1 => exact rfl)
  (case e2 => show dp + 1 < recursionLimit; omega)
  intro h6 tk6 u6 k6
  repeat walk_at "go"
  exact hQ _ _ _ (Kp.trans' F9.keep k6)
end
end Mine
namespace Mine
open PySem PySem.W PySem.Spec PySem.Calls PyProof.Rows
theorem fill_RE : (fun (_ : OpenLaw) => hd.heap_39) PySem.Challenge.rw_nb0043_01 = hd.heap_39 := by
  k_fill
  rfl
local macro_rules | `(tactic| walk_at "go") => `(tactic| first | (k_unfold; (try dsimp only)) | ((with_reducible show wpAny _ _ _ _ _ _); first | walk1 | (dsimp only; walk1)) | ((with_reducible show Frag.In _ _ ∧ _); refine ⟨by k_in, ?_⟩; try dsimp only [List.nil_append, List.cons_append]) | (refine PySem.W.ite_neg Bool.false_ne_true ?_) | (refine PySem.W.ite_pos rfl ?_) | (refine PySem.W.ite_neg (by simp only [decide_eq_true_eq, beq_iff_eq]; omega) ?_) | (refine PySem.W.ite_pos (by simp only [decide_eq_true_eq, beq_iff_eq]; omega) ?_))
/-- letters read as a number -/
def rd (bs : List UInt8) : Int := bs.foldl (fun a b => a * 16 + ((b.toNat : Int) - 65)) 0
theorem rd_snoc (bs : List UInt8) (b : UInt8) : rd (bs ++ [b]) = rd bs * 16 + ((b.toNat : Int) - 65) := by simp [rd]
theorem letter_nat {d : Nat} (h : d < 16) : ((65 + d).toUInt8).toNat = 65 + d := by
  have : ∀ d : Fin 16, ((65 + d.val).toUInt8).toNat = 65 + d.val := by decide +kernel
  exact this ⟨d, h⟩
theorem rd_ap (n : Nat) : rd (ap n) = n := by
  induction n using Nat.strongRecOn with
  | ind n ih =>
    by_cases h0 : n = 0
    · subst h0; rw [ap_zero]; rfl
    · rw [ap_pos h0, rd_snoc, ih (n / 16) (by omega), letter_nat (Nat.mod_lt _ (by decide))]
      omega
theorem ap_letters (n : Nat) : ∀ i, i < (ap n).length → ∃ d, d < 16 ∧ (ap n).getD i 0 = (65 + d).toUInt8 ∧ (i = 0 → d ≠ 0) := by
  induction n using Nat.strongRecOn with
  | ind n ih =>
    intro i hi
    by_cases h0 : n = 0
    · subst h0; rw [ap_zero] at hi; simp at hi
    · rw [ap_pos h0] at hi ⊢
      rcases Nat.lt_or_ge i (ap (n / 16)).length with h | h
      · obtain ⟨d, h1, h2, h3⟩ := ih (n / 16) (by omega) i h
        exact ⟨d, h1, by rw [getD_left _ _ _ h]; exact h2, h3⟩
      · have hi' : (ap (n / 16)).length = i := by simp at hi; omega
        refine ⟨n % 16, Nat.mod_lt _ (by decide), by rw [getD_last _ _ _ hi'], fun h1 => ?_⟩
        subst h1
        have : n / 16 = 0 := by
          by_cases h2 : n / 16 = 0
          · exact h2
          · rw [ap_pos h2] at hi'; simp at hi'
        omega
theorem range_up (k : Nat) (h : k ≤ 1000) : Builtin.Range.small 0 (k : Int) 1 = true ∧ Builtin.Range.rangeSize 0 (k : Int) 1 = (k : Int) := by
  have : ∀ k : Fin 1001, Builtin.Range.small 0 (k.val : Int) 1 = true ∧ Builtin.Range.rangeSize 0 (k.val : Int) 1 = (k.val : Int) := by decide +kernel
  exact this ⟨k, by omega⟩
section
variable {prog : Program} {w : World} {A : Around} {E : Value → Shared → Prop} {s : Shared} {mg mb : Str → Option Value} {p : Program} {loose : List Str} {Q : Value → Shared → Prop}
set_option maxHeartbeats 4000000 in
theorem read_call {n : Nat} {t : Tok} (X : (hd.heap_39 w.params).In s.heap) (T : TopRead p loose mg mb s.heap) (hh : A.handled = none) (hroom : A.depth < recursionLimit) (hlen : (ap n).length ≤ 1000)
    (hQ : ∀ h' tk u, Kp s.heap h' → Q (.int (n : Nat) u) { s with heap := h', toks := tk }) :
    wpAny (model prog w) A (call (.ref 77) [.bytes (ap n).toArray t]) Q E s := by
  obtain ⟨hnd, dp, fr, gd, un⟩ := A
  cases (show hnd = none from hh)
  refine call_fn (binds := [("word", .bytes (ap n).toArray t)]) X T (by k_is) (by k_is) hroom (BindsTo.of_eq rfl) (locs rfl) (by decide) ?_
  intro L h₁ F N X' T'
  (try dsimp only)
  (with_reducible show wpAny _ _ _ _ _ _)
  k_fold
  repeat (fail_if_success (with_reducible show wpAny _ _ (exec (Stmt.For _ _ _ _ _) _) _ _ _)); walk_at "go"
  refine for_rule (h₀ := s.heap) rfl rfl ?_
  repeat (fail_if_success (with_reducible show wpAny _ _ (call (Value.builtin "len") _) _ _ _)); walk_at "go"
  refine len_bytes (by simp; omega) ?_
  repeat walk_at "go"
  rename IsRange _ _ _ _ _ _ _ _ => hr
  rename Fr _ _ _ _ => F9
  rename News _ _ _ _ => N9
  rw [List.size_toArray] at hr
  have hru := range_up (ap n).length (by omega)
  refine ⟨(ap n).length, _, _, [], fun i m => (∃ u, m "word" = some (.bytes (ap n).toArray u)) ∧ ∃ u, m "size" = some (.int (rd ((ap n).take i)) u), iter_range rfl hr hru.1 hru.2 (by omega), F9, N9, ⟨⟨_, rfl⟩, _, rfl⟩, ?turn, ?fin⟩
  case turn =>
    rintro kept i v h tk m E' hi ⟨u, rfl⟩ ⟨⟨u1, hw⟩, u2, hs⟩ F1 N1
    rw [show (0 + (i : Int) * 1) = (i : Int) from by omega] at F1
    have F2 := fr_over [("place", .int (i : Int) u), ("word", .bytes (ap n).toArray u1), ("size", .int (rd ((ap n).take i)) u2)] F1 ⟨rfl, hw, hs, trivial⟩
    have N2 : News s.heap L h kept := N1
    clear F9 N9 F1 N1
    obtain ⟨d, hd1, hd2, hd3⟩ := ap_letters n i hi
    have hrd : rd ((ap n).take (i + 1)) = rd ((ap n).take i) * 16 + d := by
      rw [List.take_succ_eq_append_getElem hi, rd_snoc]
      have e1 : (ap n)[i] = (65 + d).toUInt8 := by rw [← hd2]; simp [List.getD_eq_getElem?_getD, hi]
      rw [e1, letter_nat hd1]
      omega
    repeat (fail_if_success (with_reducible show wpAny _ _ (subscriptTail _ _ (Value.bytes _ _) _) _ _ _)); walk_at "go"
    refine KBy.item_N (by omega) (by omega) (by omega) ?_
    rw [Int.toNat_natCast, hd2, letter_nat hd1]
    repeat (fail_if_success (with_reducible show wpAny _ _ (binaryOp _ _ _) _ _ _)); walk_at "go"
    refine sub_int ?_
    rw [show (((65 + d : Nat) : Int) - 65) = (d : Int) from by omega]
    have hne : ¬ (((i : Int) + (d : Int)) = 0) := by
      intro h0
      exact hd3 (by omega) (by omega)
    repeat walk_at "go"
    rename Fr _ _ _ _ => F9
    rename News _ _ _ _ => N9
    refine ⟨rfl, _, _, _, rfl, F9, N9, ⟨⟨_, rfl⟩, ?_⟩⟩
    rw [hrd]
    exact ⟨_, rfl⟩
  case fin =>
    rintro h tk m ⟨_, u, hs⟩ F1 N1
    have F2 := fr_over [("size", .int (rd ((ap n).take (ap n).length)) u)] F1 ⟨hs, trivial⟩
    clear F9 N9 F1
    repeat walk_at "go"
    rw [List.take_length, rd_ap]
    exact hQ _ _ _ (Fr.keep (by assumption))
end
end Mine
namespace Mine
open PySem PySem.W PySem.Spec PySem.Calls PyProof.Rows
theorem fill_BA : (fun (_ : OpenLaw) => hd.heap_39) PySem.Challenge.rw_nb0043_01 = hd.heap_39 := by
  k_fill
  rfl
local macro_rules | `(tactic| walk_at "go") => `(tactic| first | (k_unfold; (try dsimp only)) | ((with_reducible show wpAny _ _ _ _ _ _); first | walk1 | (dsimp only; walk1)) | ((with_reducible show Frag.In _ _ ∧ _); refine ⟨by k_in, ?_⟩; try dsimp only [List.nil_append, List.cons_append]) | (refine PySem.W.ite_neg Bool.false_ne_true ?_) | (refine PySem.W.ite_pos rfl ?_) | (refine PySem.W.ite_neg (by simp only [decide_eq_true_eq, beq_iff_eq]; omega) ?_) | (refine PySem.W.ite_pos (by simp only [decide_eq_true_eq, beq_iff_eq]; omega) ?_))
/-- the figures less the noughts ahead, as letters -/
def bare (ns : List Int) : List UInt8 := (ns.dropWhile (· == 0)).map fun n => (65 + n).toNat.toUInt8
theorem drop_nought : ∀ (ns : List Int) (a : Nat), (∀ j, j < a → ns.getD j 0 = 0) → (ns.length ≤ a ∨ (a < ns.length ∧ ns.getD a 0 ≠ 0)) → ns.drop a = ns.dropWhile (· == 0)
  | [], a, _, _ => by simp
  | n :: r, 0, _, h => by
    rcases h with h | ⟨_, h⟩
    · simp at h
    · have : (n == 0) = false := by simpa using h
      rw [List.drop_zero, List.dropWhile_cons, this]; rfl
  | n :: r, a + 1, hz, h => by
    have h0 : n = 0 := by simpa using hz 0 (by omega)
    subst h0
    rw [List.drop_succ_cons, List.dropWhile_cons]
    refine drop_nought r a (fun j hj => by simpa using hz (j + 1) (by omega)) ?_
    rcases h with h | ⟨h1, h2⟩
    · exact .inl (by simp at h; omega)
    · exact .inr ⟨by simp at h1; omega, by simpa using h2⟩
section
variable {prog : Program} {w : World} {A : Around} {E : Value → Shared → Prop} {s : Shared} {mg mb : Str → Option Value} {p : Program} {loose : List Str} {Q : Value → Shared → Prop}
set_option maxHeartbeats 4000000 in
theorem bare_call {l : Addr} {vs : List Value} {ns : List Int} (X : (hd.heap_39 w.params).In s.heap) (T : TopRead p loose mg mb s.heap) (hh : A.handled = none) (hroom : A.depth < recursionLimit)
    (hl : s.heap.IsList l vs.toArray) (hI : IntsAre vs ns) (hlen : ns.length ≤ 1000) (hrng : ∀ n ∈ ns, 0 ≤ n ∧ n ≤ 15)
    (hQ : ∀ h' tk u, Kp s.heap h' → Q (.bytes (bare ns).toArray u) { s with heap := h', toks := tk }) :
    wpAny (model prog w) A (call (.ref 101) [.ref l]) Q E s := by
  obtain ⟨hnd, dp, fr, gd, un⟩ := A
  cases (show hnd = none from hh)
  have hvl := hI.length
  refine call_fn (binds := [("figures", .ref l)]) X T (by k_is) (by k_is) hroom (BindsTo.of_eq rfl) (locs rfl) (by decide) ?_
  intro L h₁ F N X' T'
  (try dsimp only)
  (with_reducible show wpAny _ _ _ _ _ _)
  k_fold
  repeat (fail_if_success (with_reducible show wpAny _ _ (exec (Stmt.While _ _ _ _) _) _ _ _)); walk_at "go"
  rename Fr _ _ _ _ => F9
  rename News _ _ _ _ => N9
  refine wpAny_While (codeAny_whileLoop (fun k s' => ∃ h tk a t1 rest, s' = { s with heap := h, toks := tk } ∧ Fr s.heap L h (over [("figures", .ref l), ("ahead", .int ((a : Nat) : Int) t1)] rest) ∧
      a ≤ ns.length ∧ (∀ j, j < a → ns.getD j 0 = 0) ∧ k = ns.length - a) ?_ ns.length ⟨_, _, 0, _, _, rfl, fr_over _ F9 ⟨rfl, rfl, trivial⟩, Nat.zero_le _, (fun j hj => absurd hj (Nat.not_lt_zero _)), rfl⟩)
  clear F9 N9
  rintro k s' ⟨h, tk, a, t1, rest, rfl, F1, ha, hz, rfl⟩
  have N1 : News s.heap L h [] := News.nil
  repeat walk_at "go"
  by_cases hlt : a < ns.length
  · refine PySem.W.ite_pos (by simp only [decide_eq_true_eq]; omega) ?_
    have h0 : (0 : Int) ≤ (a : Int) := by omega
    have h1 : (a : Int) < (ns.length : Int) := by omega
    repeat walk_at "go"
    rw [Int.toNat_natCast]
    by_cases hz0 : ns.getD a 0 = 0
    · refine PySem.W.ite_pos (by simp only [beq_iff_eq]; exact hz0) ?_
      repeat walk_at "go"
      rename Fr _ _ _ _ => F9
      refine ⟨ns.length - (a + 1), by omega, _, _, a + 1, _, _, rfl, fr_over _ F9 ⟨rfl, rfl, trivial⟩, hlt, ?_, rfl⟩
      intro j hj
      rcases Nat.lt_or_ge j a with hja | hja
      · exact hz j hja
      · have : j = a := by omega
        subst this
        exact hz0
    · refine PySem.W.ite_neg (by simp only [beq_iff_eq]; exact hz0) ?_
      have hdrop := drop_nought ns a hz (.inr ⟨hlt, hz0⟩)
      repeat (fail_if_success (with_reducible show wpAny _ _ (eval (Expr.ListComp _ _ _ _) _) _ _ _)); walk_at "go"
      refine lcomp (fun i v y own => own = [] ∧ ∃ u, y = .int (65 + (ns.drop a).getD i 0) u) rfl rfl (by decide) (by decide) rfl ?_
      repeat (fail_if_success (with_reducible show wpAny _ _ (subscriptTail _ _ _ _) _ _ _)); walk_at "go"
      rename Fr _ _ _ _ => F9
      rename News _ _ _ _ => N9
      refine slice_list (s := ⟨_, _, _, _, _⟩) F9 N9 (isList_kp hl F9.keep) (IsPart.int _ _) IsPart.none ?_ (by with_unfolding_all rfl) (by intro _; with_unfolding_all rfl) (by rw [sizeLine_eq]; simp; omega)
      intro h6 F6 N6
      clear F9 N9
      have F9 := F6
      have N9 := N6
      clear F6 N6
      have hI9 := slice_ints_from hI (show (0 : Int) ≤ (a : Int) by omega) (show (a : Int) ≤ (ns.length : Int) by omega)
      rw [Int.toNat_natCast] at hI9
      have hlst := N9.isList (List.Mem.head _)
      rw [show slicePick vs.toArray (some (a : Int)) none none = (slicePick vs.toArray (some (a : Int)) none none).toList.toArray from (Array.toArray_toList).symm] at hlst
      have hlen9 := hI9.length
      have hdl : (ns.drop a).length ≤ 1000 := by simp; omega
      refine ⟨_, _, iter_list rfl hlst (by omega), ?body, ?done⟩
      case body =>
        intro C i v h2 tk2 m2 E2 hC hi hP hn2 hm2 hk2
        obtain ⟨u9, hu9⟩ := ints_num hI9 i v (by simpa using hP)
        subst hu9
        refine wpAny_BinOp (wpAny_Constant_int (n_local hn2 hm2 (add_int ?_)))
        exact ⟨_, _, [], rfl, Kp.refl _, ⟨rfl, _, rfl⟩, Made.nil⟩
      case done =>
        intro D h3 tk3 ys owns hD hpl hrow hoff hk3
        obtain ⟨c3, hc3⟩ := hpl
        have F3 := F9.after hk3
        have N3 := news_add F9 N9 hk3 hD hc3
        have hI3 := rows_ints hrow (fun i => 65 + (ns.drop a).getD i 0) fun i v y own _ _ hF => hF.2
        rw [hlen9] at hI3
        have hmap : (List.range (ns.drop a).length).map (fun i => 65 + (ns.drop a).getD i 0) = (ns.drop a).map (fun n => 65 + n) := by
          apply List.ext_getElem
          · simp
          · intro i h1 h2
            have h3 : i < (ns.drop a).length := by simpa using h1
            simp only [List.getElem_map, List.getElem_range, List.getD_eq_getElem?_getD, List.getElem?_eq_getElem h3, Option.getD_some]
        rw [hmap] at hI3
        clear F9 N9
        repeat (fail_if_success (with_reducible show wpAny _ _ (call (Value.type _) _) _ _ _)); walk_at "go"
        rename Fr _ _ _ _ => F9
        rename News _ _ _ _ => N9
        refine call_bytes_ints (N9.isList (List.Mem.head _)) hI3 ?_ ?_ rfl ?_
        · intro n hn
          obtain ⟨x, hx, rfl⟩ := List.mem_map.mp hn
          have := hrng x (List.mem_of_mem_drop hx)
          omega
        · rw [hI3.length, sizeLine_eq]
          simp; omega
        · intro h7 t7 k7 hk7
          repeat walk_at "go"
          have hb : byteArr ((ns.drop a).map (fun n => 65 + n)) = (bare ns).toArray := by
            unfold byteArr bare
            rw [← hdrop, List.map_map]
            rfl
          rw [hb]
          exact hQ _ _ _ (fun b o e => hk7 b o (F9.keep b o e))
  · refine PySem.W.ite_neg (by simp only [decide_eq_true_eq]; omega) ?_
    have hdrop := drop_nought ns a hz (.inl (by omega))
    repeat (fail_if_success (with_reducible show wpAny _ _ (eval (Expr.ListComp _ _ _ _) _) _ _ _)); walk_at "go"
    refine lcomp (fun i v y own => own = [] ∧ ∃ u, y = .int (65 + (ns.drop a).getD i 0) u) rfl rfl (by decide) (by decide) rfl ?_
    repeat (fail_if_success (with_reducible show wpAny _ _ (subscriptTail _ _ _ _) _ _ _)); walk_at "go"
    rename Fr _ _ _ _ => F9
    rename News _ _ _ _ => N9
    refine slice_list (s := ⟨_, _, _, _, _⟩) F9 N9 (isList_kp hl F9.keep) (IsPart.int _ _) IsPart.none ?_ (by with_unfolding_all rfl) (by intro _; with_unfolding_all rfl) (by rw [sizeLine_eq]; simp; omega)
    intro h6 F6 N6
    clear F9 N9
    have F9 := F6
    have N9 := N6
    clear F6 N6
    have hI9 := slice_ints_from hI (show (0 : Int) ≤ (a : Int) by omega) (show (a : Int) ≤ (ns.length : Int) by omega)
    rw [Int.toNat_natCast] at hI9
    have hlst := N9.isList (List.Mem.head _)
    rw [show slicePick vs.toArray (some (a : Int)) none none = (slicePick vs.toArray (some (a : Int)) none none).toList.toArray from (Array.toArray_toList).symm] at hlst
    have hlen9 := hI9.length
    have hdl : (ns.drop a).length ≤ 1000 := by simp; omega
    refine ⟨_, _, iter_list rfl hlst (by omega), ?body, ?done⟩
    case body =>
      intro C i v h2 tk2 m2 E2 hC hi hP hn2 hm2 hk2
      obtain ⟨u9, hu9⟩ := ints_num hI9 i v (by simpa using hP)
      subst hu9
      refine wpAny_BinOp (wpAny_Constant_int (n_local hn2 hm2 (add_int ?_)))
      exact ⟨_, _, [], rfl, Kp.refl _, ⟨rfl, _, rfl⟩, Made.nil⟩
    case done =>
      intro D h3 tk3 ys owns hD hpl hrow hoff hk3
      obtain ⟨c3, hc3⟩ := hpl
      have F3 := F9.after hk3
      have N3 := news_add F9 N9 hk3 hD hc3
      have hI3 := rows_ints hrow (fun i => 65 + (ns.drop a).getD i 0) fun i v y own _ _ hF => hF.2
      rw [hlen9] at hI3
      have hmap : (List.range (ns.drop a).length).map (fun i => 65 + (ns.drop a).getD i 0) = (ns.drop a).map (fun n => 65 + n) := by
        apply List.ext_getElem
        · simp
        · intro i h1 h2
          have h3 : i < (ns.drop a).length := by simpa using h1
          simp only [List.getElem_map, List.getElem_range, List.getD_eq_getElem?_getD, List.getElem?_eq_getElem h3, Option.getD_some]
      rw [hmap] at hI3
      clear F9 N9
      repeat (fail_if_success (with_reducible show wpAny _ _ (call (Value.type _) _) _ _ _)); walk_at "go"
      rename Fr _ _ _ _ => F9
      rename News _ _ _ _ => N9
      refine call_bytes_ints (N9.isList (List.Mem.head _)) hI3 ?_ ?_ rfl ?_
      · intro n hn
        obtain ⟨x, hx, rfl⟩ := List.mem_map.mp hn
        have := hrng x (List.mem_of_mem_drop hx)
        omega
      · rw [hI3.length, sizeLine_eq]
        simp; omega
      · intro h7 t7 k7 hk7
        repeat walk_at "go"
        have hb : byteArr ((ns.drop a).map (fun n => 65 + n)) = (bare ns).toArray := by
          unfold byteArr bare
          rw [← hdrop, List.map_map]
          rfl
        rw [hb]
        exact hQ _ _ _ (fun b o e => hk7 b o (F9.keep b o e))
end
end Mine
namespace Mine
open PySem PySem.W PySem.Spec PySem.Calls PyProof.Rows
theorem preSum_congr {f g : Nat → Int} (n : Nat) (h : ∀ j, j < n → f j = g j) : preSum f n = preSum g n := by
  induction n with
  | zero => rfl
  | succ n ih => rw [preSum, preSum, ih (fun j hj => h j (by omega)), h n (by omega)]
theorem preSum_mul (c : Int) (g : Nat → Int) (n : Nat) : preSum (fun j => c * g j) n = c * preSum g n := by
  induction n with
  | zero => simp [preSum]
  | succ n ih => rw [preSum, preSum, ih, Int.mul_add]
theorem preSum_add (f g : Nat → Int) (n : Nat) : preSum (fun j => f j + g j) n = preSum f n + preSum g n := by
  induction n with
  | zero => rfl
  | succ n ih => simp only [preSum, ih]; omega
theorem preSum_sub (f g : Nat → Int) (n : Nat) : preSum (fun j => f j - g j) n = preSum f n - preSum g n := by
  induction n with
  | zero => rfl
  | succ n ih => simp only [preSum, ih]; omega

/-- the number that w figures tell -/
def pv (f : Nat → Int) (w : Nat) : Int := preSum (fun j => f j * 16 ^ (w - 1 - j)) w
/-- the weight of the j-th of w places, and 1 behind them -/
def wt (w j : Nat) : Int := if j < w then 15 * 16 ^ (w - 1 - j) else 1

theorem dot_pv (f : Nat → Int) (w : Nat) : dot f (wt w) w = 15 * pv f w := by
  unfold dot pv
  rw [← preSum_mul]
  refine preSum_congr w fun j hj => ?_
  unfold wt
  rw [if_pos hj, Int.mul_left_comm]

theorem pow_split {w i : Nat} (h : i < w) : (16 : Int) ^ (w - i) = 16 * 16 ^ (w - 1 - i) := by
  have : w - i = (w - 1 - i) + 1 := by omega
  rw [this, Int.pow_succ, Int.mul_comm]

theorem dot_bound (f : Nat → Int) (w : Nat) (B : Int) (hB : 0 ≤ B) (hf : ∀ j, j < w → -B ≤ f j ∧ f j ≤ B) : ∀ i, i ≤ w → -(B * (16 ^ w - 16 ^ (w - i))) ≤ dot f (wt w) i ∧ dot f (wt w) i ≤ B * (16 ^ w - 16 ^ (w - i)) := by
  intro i
  induction i with
  | zero => intro _; simp [dot, preSum]
  | succ i ih =>
    intro hi
    obtain ⟨h1, h2⟩ := ih (by omega)
    obtain ⟨g1, g2⟩ := hf i (by omega)
    have e1 := pow_split (show i < w by omega)
    have e2 : w - (i + 1) = w - 1 - i := by omega
    have hp : (0 : Int) < 16 ^ (w - 1 - i) := Int.pow_pos (by decide)
    have hd : dot f (wt w) (i + 1) = dot f (wt w) i + f i * (15 * 16 ^ (w - 1 - i)) := by
      show preSum _ i + f i * wt w i = _
      unfold wt
      rw [if_pos (show i < w by omega)]
    have k1 := Int.mul_le_mul_of_nonneg_right g1 (show (0 : Int) ≤ 15 * 16 ^ (w - 1 - i) by omega)
    have k2 := Int.mul_le_mul_of_nonneg_right g2 (show (0 : Int) ≤ 15 * 16 ^ (w - 1 - i) by omega)
    rw [hd, e2]
    rw [e1] at h1 h2
    generalize (16 : Int) ^ (w - 1 - i) = P at *
    generalize (16 : Int) ^ w = W at *
    have a1 : B * (W - P) = B * (W - 16 * P) + B * (15 * P) := by rw [← Int.mul_add]; congr 1; omega
    rw [a1]
    rw [Int.neg_mul] at k1
    omega

theorem dot_ok (f : Nat → Int) (w : Nat) (hw : w ≤ 10) (hf : ∀ j, j < w → -64 ≤ f j ∧ f j ≤ 64) : DotOk f (wt w) w where
  fa := fun i hi => by have := hf i hi; omega
  fb := fun i hi => by
    unfold wt
    rw [if_pos hi]
    have := pow16_le (w - 1 - i) (by omega)
    have h2 : (16 : Int) ^ (w - 1 - i) ≤ 16 ^ 9 := by
      have : w - 1 - i ≤ 9 := by omega
      exact_mod_cast Nat.pow_le_pow_right (by decide : 0 < 16) this
    omega
  ab := fun i hi => by
    unfold wt
    rw [if_pos hi]
    have h1 := pow16_le (w - 1 - i) (by omega)
    have h2 : (16 : Int) ^ (w - 1 - i) ≤ 16 ^ 9 := by
      have : w - 1 - i ≤ 9 := by omega
      exact_mod_cast Nat.pow_le_pow_right (by decide : 0 < 16) this
    obtain ⟨g1, g2⟩ := hf i hi
    have k1 := Int.mul_le_mul_of_nonneg_right g1 (show (0 : Int) ≤ 15 * 16 ^ (w - 1 - i) by omega)
    have k2 := Int.mul_le_mul_of_nonneg_right g2 (show (0 : Int) ≤ 15 * 16 ^ (w - 1 - i) by omega)
    omega
  sum := fun i hi => by
    obtain ⟨h1, h2⟩ := dot_bound f w 64 (by decide) hf i hi
    have h3 : (16 : Int) ^ w ≤ 16 ^ 10 := by exact_mod_cast Nat.pow_le_pow_right (by decide : 0 < 16) hw
    have h4 : (0 : Int) < 16 ^ (w - i) := Int.pow_pos (by decide)
    omega

theorem dot_snoc (f : Nat → Int) (w : Nat) (h0 : f w = 0) : dot f (wt w) (w + 1) = 15 * pv f w := by
  rw [← dot_pv]
  show preSum _ w + f w * wt w w = _
  rw [h0, Int.zero_mul, Int.add_zero]
theorem dot_ok1 (f : Nat → Int) (w : Nat) (hw : w ≤ 10) (hf : ∀ j, j < w → -64 ≤ f j ∧ f j ≤ 64) (h0 : f w = 0) : DotOk f (wt w) (w + 1) := by
  have ok := dot_ok f w hw hf
  have e : wt w w = 1 := by unfold wt; rw [if_neg (Nat.lt_irrefl w)]
  refine ⟨fun i hi => ?_, fun i hi => ?_, fun i hi => ?_, fun i hi => ?_⟩
  · rcases Nat.lt_or_ge i w with h | h
    · exact ok.fa i h
    · have : i = w := by omega
      subst this; rw [h0]; decide
  · rcases Nat.lt_or_ge i w with h | h
    · exact ok.fb i h
    · have : i = w := by omega
      subst this; rw [e]; decide
  · rcases Nat.lt_or_ge i w with h | h
    · exact ok.ab i h
    · have : i = w := by omega
      subst this; rw [h0, Int.zero_mul]; decide
  · rcases Nat.lt_or_ge i (w + 1) with h | h
    · exact ok.sum i (by omega)
    · have : i = w + 1 := by omega
      subst this; rw [dot_snoc f w h0, ← dot_pv]; exact ok.sum w (Nat.le_refl _)

theorem worths_getD (w j : Nat) (hj : j ≤ w) : (worths w).getD j 0 = wt w j := by
  unfold worths wt
  rcases Nat.lt_or_ge j w with h | h
  · rw [if_pos h, List.getD_eq_getElem?_getD, List.getElem?_append_left (by simpa using h)]
    simp [h]
  · have : j = w := by omega
    subst this
    rw [if_neg (Nat.lt_irrefl _), List.getD_eq_getElem?_getD, List.getElem?_append_right (by simp)]
    simp
theorem intAt_worths {ws : List Value} {w : Nat} (h : IntsAre ws (worths w)) : IntAt ws.toArray (w + 1) (wt w) ∧ ws.length = w + 1 := by
  have hl : ws.length = w + 1 := by rw [h.length]; simp [worths]
  refine ⟨fun i hi => ?_, hl⟩
  obtain ⟨t, ht⟩ := ints_at h i (by omega)
  dsimp only at ht
  rw [worths_getD w i (by omega)] at ht
  exact ⟨t, ht⟩
theorem intAt_snoc {vs : List Value} {ns : List Int} (t : Tok) (h : IntsAre vs ns) : IntAt (vs ++ [Value.int 0 t]).toArray (vs.length + 1) (fun j => ns.getD j 0) := fun i hi => by
  have hl := h.length
  rcases Nat.lt_or_ge i vs.length with h1 | h1
  · obtain ⟨u, hu⟩ := ints_at h i h1
    refine ⟨u, ?_⟩
    rw [← hu]
    simp [List.getElem?_append_left h1]
  · have : i = vs.length := by omega
    subst this
    refine ⟨t, ?_⟩
    rw [hl]
    simp [← hl]

section
variable {prog : Program} {w : World}
/-- what sumprod gives of a row of figures and its weights -/
theorem sum_ints {vs : List Value} {ns : List Int} (h : IntsAre vs ns) (hn : vs.length ≤ 10) (hf : ∀ j, j < vs.length → -64 ≤ ns.getD j 0 ∧ ns.getD j 0 ≤ 64) :
    ∀ d wt' t ws h, h.IsList d (vs ++ [Value.int 0 t]).toArray → h.IsList wt' ws.toArray → IntsAre ws (worths vs.length) → SumP prog w d wt' h (15 * pv (fun j => ns.getD j 0) vs.length) 0 := by
  intro d wt' t ws hp hd hw hI A s Q E hh hk hQ
  obtain ⟨i1, i2⟩ := intAt_worths hI
  have h0 : ns.getD vs.length 0 = 0 := by rw [h.length]; simp
  have ok := dot_ok1 (fun j => ns.getD j 0) vs.length hn hf h0
  have e1 : (vs ++ [Value.int 0 t]).toArray.size = vs.length + 1 := by simp
  refine call_sumprod_ints (a := fun j => ns.getD j 0) (b := wt vs.length) hh (isList_kp hd hk) (isList_kp hw hk) (by rw [e1]; exact intAt_snoc t h) (by rw [List.size_toArray, i2]; exact i1) (by rw [e1, List.size_toArray, i2]) (by rw [e1]; exact ok) fun h' tk u k' => ?_
  rw [e1, dot_snoc _ _ h0]
  refine hQ _ h' tk k' (.inl ⟨u, rfl, rfl, ?_⟩)
  rw [← dot_snoc _ _ h0]
  exact ok.sum _ (Nat.le_refl _)
/-- what sumprod gives of floats and their weights -/
theorem sum_floats {vs : List Value} {f : Nat → Int} {e : Nat} (h : FltAt vs.toArray vs.length f e) (h0 : 0 < vs.length) (hn : vs.length ≤ 10) (he : e ≤ 1074) (hf : ∀ j, j < vs.length → -64 ≤ f j ∧ f j ≤ 64) :
    ∀ d wt' t ws h, h.IsList d (vs ++ [Value.int 0 t]).toArray → h.IsList wt' ws.toArray → IntsAre ws (worths vs.length) → SumP prog w d wt' h (15 * pv f vs.length) e := by
  intro d wt' t ws hp hd hw hI A s Q E hh hk hQ
  obtain ⟨i1, i2⟩ := intAt_worths hI
  obtain ⟨tc, hc⟩ := i1 vs.length (by omega)
  have ok := dot_ok f vs.length hn hf
  refine call_sumprod_floats (a := f) (b := wt vs.length) (n := vs.length) (tz := t) (tc := tc) (c := wt vs.length vs.length) hh (isList_kp hd hk) (isList_kp hw hk) h0 ?_ (by simp) (by simp) (fun i hi => i1 i (by omega)) hc (by rw [List.size_toArray, i2]) (IntMulOk.of_left (by decide)) he ok fun h' tk x u k' hx => ?_
  · intro i hi
    obtain ⟨x, u, hx, hI⟩ := h i hi
    refine ⟨x, u, ?_, hI⟩
    rw [← hx]
    simp [List.getElem?_append_left hi]
  · rw [dot_pv] at hx
    exact hQ _ h' tk k' (.inr ⟨x, u, rfl, hx⟩)
end

theorem pv_snoc (ns : List Int) (d : Int) : pv (fun j => (ns ++ [d]).getD j 0) (ns.length + 1) = pv (fun j => ns.getD j 0) ns.length * 16 + d := by
  unfold pv
  rw [preSum]
  have e1 : preSum (fun j => (ns ++ [d]).getD j 0 * 16 ^ (ns.length + 1 - 1 - j)) ns.length = preSum (fun j => 16 * (ns.getD j 0 * 16 ^ (ns.length - 1 - j))) ns.length := by
    refine preSum_congr _ fun j hj => ?_
    rw [getD_left _ _ _ hj, show ns.length + 1 - 1 - j = ns.length - j from by omega, pow_split hj, Int.mul_left_comm]
  rw [e1, preSum_mul]
  show _ + (ns ++ [d]).getD ns.length 0 * _ = _
  rw [getD_last _ _ _ rfl]
  simp [Int.mul_comm]
theorem dropWhile_snoc (ns : List Int) (d : Int) : (ns ++ [d]).dropWhile (· == 0) = if ns.dropWhile (· == 0) = [] then (if d = 0 then [] else [d]) else ns.dropWhile (· == 0) ++ [d] := by
  induction ns with
  | nil => by_cases h : d = 0 <;> simp [h]
  | cons n r ih =>
    by_cases h : n = 0
    · subst h; simpa using ih
    · simp [h]
/-- a row's number, written, is the row less the noughts ahead -/
theorem ap_bare' (r : List Int) : (∀ n ∈ r, 0 ≤ n ∧ n ≤ 15) → 0 ≤ pv (fun j => r.reverse.getD j 0) r.reverse.length ∧ ap (pv (fun j => r.reverse.getD j 0) r.reverse.length).toNat = bare r.reverse ∧
    (pv (fun j => r.reverse.getD j 0) r.reverse.length = 0 ↔ r.reverse.dropWhile (· == 0) = []) := by
  induction r with
  | nil => intro _; exact ⟨by decide, by rw [show pv (fun j => ([] : List Int).reverse.getD j 0) ([] : List Int).reverse.length = 0 from rfl]; exact ap_zero, by simp [pv, preSum]⟩
  | cons d r ih =>
    intro h
    obtain ⟨h1, h2, h3⟩ := ih fun n hn => h n (List.mem_cons_of_mem _ hn)
    obtain ⟨d1, d2⟩ := h d List.mem_cons_self
    rw [List.reverse_cons, List.length_append, List.length_singleton, pv_snoc, dropWhile_snoc]
    generalize pv (fun j => r.reverse.getD j 0) r.reverse.length = P at *
    have hb : bare (r.reverse ++ [d]) = (if r.reverse.dropWhile (· == 0) = [] then (if d = 0 then [] else [d]) else r.reverse.dropWhile (· == 0) ++ [d]).map (fun n => (65 + n).toNat.toUInt8) := by
      unfold bare; rw [dropWhile_snoc]
    rw [hb]
    refine ⟨by omega, ?_, ?_⟩
    · by_cases hz : P = 0
      · rw [if_pos (h3.mp hz)]
        subst hz
        by_cases hd : d = 0
        · subst hd; simp [ap_zero]
        · rw [if_neg hd, ap_pos (by omega)]
          have e1 : (0 * 16 + d).toNat / 16 = 0 := by omega
          have e2 : (0 * 16 + d).toNat % 16 = d.toNat := by omega
          have e3 : (65 + d).toNat = 65 + d.toNat := by omega
          rw [e1, e2, ap_zero, List.map_cons, List.map_nil, e3, List.nil_append]
      · rw [if_neg (fun hc => hz (h3.mpr hc)), ap_pos (by omega)]
        have e1 : (P * 16 + d).toNat / 16 = P.toNat := by omega
        have e2 : (P * 16 + d).toNat % 16 = d.toNat := by omega
        rw [e1, e2, h2, List.map_append]
        have e3 : (65 + d).toNat = 65 + d.toNat := by omega
        unfold bare
        rw [List.map_cons, List.map_nil, e3]
    · by_cases hz : P = 0
      · rw [if_pos (h3.mp hz)]
        subst hz
        by_cases hd : d = 0 <;> simp [hd]
      · rw [if_neg (fun hc => hz (h3.mpr hc))]
        simp
        omega
theorem ap_bare (ns : List Int) (h : ∀ n ∈ ns, 0 ≤ n ∧ n ≤ 15) : 0 ≤ pv (fun j => ns.getD j 0) ns.length ∧ ap (pv (fun j => ns.getD j 0) ns.length).toNat = bare ns := by
  have := ap_bare' ns.reverse (fun n hn => h n (by simpa using hn))
  rw [List.reverse_reverse] at this
  exact ⟨this.1, this.2.1⟩
end Mine
namespace Mine
open PySem PySem.W PySem.Spec PySem.Calls PyProof.Rows
section
variable {prog : Program} {w : World} {A A₀ : Around} {E : Value → Shared → Prop} {s : Shared} {K : Frag} {mg mb : Str → Option Value} {p : Program} {loose : List Str} {mean : ExcName → Option Value}
  {Q : Value → Shared → Prop} {name qual : Str} {params : Arguments} {body : List Stmt} {scope : Scope} {dV kV doc pm cdv ct oc : Value} {an od : Option Addr} {osl : Array (Option Value)} {f : Addr} {args : List Value} {kw : List (Str × Value)} {binds : List (Str × Value)}
  {base h₀ : Heap} {outer : List Env} {env : Env} {L : Addr} {m : Str → Option Value}

theorem below_here (B : Below A₀ base outer h₀) (F : Fr h₀ L s.heap m) (hA : A.frames = some (env :: outer)) (hf : env.frame = some L) (hke : env.scope.kind = .function) : Below A base (env :: outer) s.heap :=
  ⟨hA, fun b o e => F.keep b o (B.stays b o e), (pushX B F hf hke).frames⟩

/-- a plain def of the text, called; it may raise -/
theorem call_fnB (B : Below A₀ base outer h₀) (F : Fr h₀ L s.heap m) (X : K.In h₀) (T : Top p loose mean mg mb h₀) (hA : A.frames = some (env :: outer)) (hf : env.frame = some L) (hke : env.scope.kind = .function)
    (ho : K.lookup f = some ⟨oc, od, .func (fnOf name qual params body scope dV kV doc pm an cdv ct), osl⟩) (hcd : codeIn K cdv qual = true) (hroom : A.depth < recursionLimit)
    (hbind : BindsTo s (fnOf name qual params body scope dV kV doc pm an cdv ct) ⟨args, kw⟩ binds) (hloc : ∀ y ∈ binds, scope.names.lookup y.1 = some .local)
    (hcell : ∀ x ∈ scope.names, x.2 ≠ .cell)
    (h : ∀ L h₁, Fr s.heap L h₁ (fun y => binds.reverse.lookup y) → News s.heap L h₁ [] → Below A base (env :: outer) s.heap → K.In s.heap → Top p loose mean mg mb s.heap →
      wpAny (model prog w) (A.deeper (envOf qual scope L f cdv)) (execs body (envOf qual scope L f cdv))
        (fun fl s' => Q (match fl with | .ret v => v | _ => .none) s')
        (fun e s' => wpAny (model prog w) (A.deeper (envOf qual scope L f cdv)) (leaving (envOf qual scope L f cdv) e) (fun _ s'' => E e s'') (fun e' s'' => E e' s'') s') { s with heap := h₁, toks := s.toks + binds.length })
    (hco : scope.isCoroutine = false := by rfl) (hgen : scope.isGenerator = false := by rfl) (hk : scope.kind = .function := by rfl) :
    wpAny (model prog w) A (call (.ref f) args kw) Q E s := by
  have X' := X.keeps F.keep
  have T' := T.keeps F.keep
  refine wpAny_call (codeAny_call_def (fd := fnOf name qual params body scope dV kV doc pm an cdv ct) (body := body) (binds := binds) hroom (X' _ _ ho) rfl T'.nolimit (codeRec_of X' hcd) rfl hbind hcell hloc (fun h₁ hns hk₁ => ?_) hco hgen hk)
  exact h s.heap.objs.size h₁ ⟨hns, hk₁, Nat.le_refl _⟩ News.nil (below_here B F hA hf hke) X' T'

/-- a def of the text some of whose names are cells, called; it may raise -/
theorem call_fnCB (B : Below A₀ base outer h₀) (F : Fr h₀ L s.heap m) (X : K.In h₀) (T : Top p loose mean mg mb h₀) (hA : A.frames = some (env :: outer)) (hf : env.frame = some L) (hke : env.scope.kind = .function)
    (ho : K.lookup f = some ⟨oc, od, .func (fnOf name qual params body scope dV kV doc pm an cdv ct), osl⟩) (hcd : codeIn K cdv qual = true) (hroom : A.depth < recursionLimit)
    (hbind : BindsTo s (fnOf name qual params body scope dV kV doc pm an cdv ct) ⟨args, kw⟩ binds) (hkind : (binds.all fun y => scope.names.lookup y.1 == some .local || scope.names.lookup y.1 == some .cell) = true)
    (hnd : ((cellsFrom 0 scope.names []).map (·.1)).Nodup)
    (h : ∀ L h₁ tk cells, Fr s.heap L h₁ (bindL (envOfC qual scope L f cdv).kindOf binds fun _ => none) → News s.heap L h₁ cells → CellsAre (bindC (envOfC qual scope L f cdv).kindOf binds fun _ => none) (cellsFrom (L + 1) scope.names []) cells →
      Below A base (env :: outer) s.heap → K.In s.heap → Top p loose mean mg mb s.heap →
      wpAny (model prog w) (A.deeper (envOfC qual scope L f cdv)) (execs body (envOfC qual scope L f cdv))
        (fun fl s' => Q (match fl with | .ret v => v | _ => .none) s')
        (fun e s' => wpAny (model prog w) (A.deeper (envOfC qual scope L f cdv)) (leaving (envOfC qual scope L f cdv) e) (fun _ s'' => E e s'') (fun e' s'' => E e' s'') s') { s with heap := h₁, toks := tk })
    (hco : scope.isCoroutine = false := by rfl) (hgen : scope.isGenerator = false := by rfl) (hk : scope.kind = .function := by rfl) :
    wpAny (model prog w) A (call (.ref f) args kw) Q E s := by
  have X' := X.keeps F.keep
  have T' := T.keeps F.keep
  refine wpAny_call (codeAny_call_function (fd := fnOf name qual params body scope dV kV doc pm an cdv ct) hroom (X' _ _ ho) rfl hco hgen rfl (codeRec_of X' hcd) (hbind _ _ _ _ ?_))
  refine wpAny_newFunctionEnv_cells hk (kindsX hkind _) fun env' he s' x => ?_
  subst he
  refine ⟨T'.nolimit.keeps x.toInCall.keep, codeAny_func ?_⟩
  obtain ⟨h₁, tk, rfl, _⟩ := x.done
  have hk₁ := x.toInCall.keep
  obtain ⟨cells, NC, Y⟩ := Cl.news (h₀ := s.heap) (Nat.le_refl _) fun n c hm => ⟨x.cell n c (lookup_of_mem_nodup (cellsFrom_names scope.names 0 (s.heap.objs.size + 1) [] [] rfl ▸ hnd) hm), x.above n c hm⟩
  exact h s.heap.objs.size h₁ tk cells ⟨x.toInCall.ns, hk₁, Nat.le_refl _⟩ NC Y (below_here B F hA hf hke) X' T'
end
end Mine
namespace Mine
open PySem PySem.W PySem.Spec PySem.Calls PyProof.Rows
section
variable {prog : Program} {w : World} {A : Around} {E : Value → Shared → Prop} {s : Shared} {env : Env} {h₀ : Heap} {mg mb : Str → Option Value} {p : Program} {loose : List Str} {K : Frag}
  {x : Str} {C : Addr} {B newId initId : String} {bm : List Value} {np cpos pos cp : Pos} {kk : Nat} {txt : Str} {Q : Flow → Shared → Prop}

/-- raise X("..") of an own class, no exception being handled, in any frame -/
theorem raise_own1 (X : K.In h₀) (T : TopRead p loose mg mb h₀) (k : Kp h₀ s.heap) (ex : nsIn K mainGlobals x = some (some (.ref C))) (q : excIn K C bm newId = true) (FB : ExcBaseFacts B newId initId bm) (hh : A.handled = none)
    (h : ∀ h' tk e vs, Heap.MadeExcOf s.heap h' e (.ref C) vs → E (.ref e) { s with heap := h', toks := tk })
    (hk : env.scope.kind = .function := by rfl) (hl : env.kindOf x = some .globalImplicit := by rfl) (hg : env.globals = mainGlobals := by rfl) (hd : (x == ("__debug__" : Str)) = false := by decide) :
    wpAny (model prog w) A (exec (.Raise (some (.Call (.Name x np) [.Constant (.str txt) kk cp] [] cpos)) none pos) env) Q E s := by
  obtain ⟨tl, N, nm, qn, bs, hdct, sn, sub, ab, col, dd, k0, k1, k2, k3, k5, mN, hC, hN, hni, TT⟩ := (own_of_in X T ex q).obj
  refine wpAny_Raise_call_subT (C := C) (nm := nm) (q := qn) (N := N) (bs := bs) (bm := tl) (hdct := hdct) (sn := sn) (sub := sub) (ab := ab) (col := col) (dd := dd) (k0 := k0) (k1 := k1) (k2 := k2) (k3 := k3) (k5 := k5)
    FB (mN := mN) (TT.hasType FB.hasBase) hh rfl hni (n_global X T k ex ⟨rfl, ?_⟩ hk hl hg hd)
  refine Calls.evalArgs_plain (Calls.spliced_cons ?_)
  refine Constant_str (k := kk) (pos := cp) ?_
  refine Calls.spliced_nil ?_
  exact ⟨rfl, by simp [sizeLine], k _ _ hC, hN.keeps k, TT.keeps k, fun h' e hm => h _ _ _ _ hm⟩

/-- the clause that takes an own class, in any frame: a return of True -/
theorem catch_own1 {base : Heap} {outer : List Env} {L e : Addr} {a0 : Value} {rp tp : Pos} {kc : Nat} (hA : A.frames = some (env :: outer)) (hf : env.frame = some L) (hfl : Heap.FlyingW base (env :: outer) e (.ref C) a0 s.heap)
    (X : K.In base) (T : TopRead p loose mg mb base) (ex : nsIn K mainGlobals x = some (some (.ref C))) (q : excIn K C bm newId = true) (FB : ExcBaseFacts B newId initId bm)
    (h : ∀ h', base.StaysIn h' → s.heap.UpToSlots h' → Q (.ret (.bool true)) { s with heap := h' })
    (hk : env.scope.kind = .function := by rfl) (hl : env.kindOf x = some .globalImplicit := by rfl) (hg : env.globals = mainGlobals := by rfl) (hd : (x == ("__debug__" : Str)) = false := by decide) :
    wpAny (model prog w) A (noteFrame (.ref e) env) (fun _ s₂ => wpAny (model prog w) A (setFlight (.ref e) none) (fun _ s₃ =>
      wpAny (model prog w) A (handleBy (.ref e) env [.ExceptHandler (some (.Name x np)) none [.Return (some (.Constant (.bool true) kc tp)) rp] pos]) Q E s₃) E s₂) E s := by
  refine wpAny_looks_onW hA hf hfl fun h₄ hheld₄ hsm₄ => ?_
  refine wpAny_landsW hheld₄ fun h₅ hheld hsm₅ => ?_
  obtain ⟨ob, hob, hobc⟩ := hheld.there
  refine wpAny_handleBy_cons (codeAny_handlers_test (n_global X T hheld.1 ex ?_ hk hl hg hd)) (by intro q; cases q)
  obtain ⟨tl, N, nm, qn, bs, hdct, sn, sub, ab, col, dd, k0, k1, k2, k3, k5, mN, hC, hN, hni, TL⟩ := ((own_of_in X T ex q).keeps hheld.1).obj
  refine wpAny_excMatches_sub_self hC hob hobc (TL.hasType FB.hasBase) (codeAny_handlers_suite ?_)
  refine lands_againW hheld fun h₆ hfl₆ hsm₆ => ?_
  refine wpAny_execs_cons (wpAny_Return_some ?_)
  exact fun _ _ _ => h h₆ hfl₆.1 ((hsm₄.trans hsm₅).trans hsm₆)
end

theorem stays_hide {A : Around} {base h : Heap} {l : List Env} (P : Below A base l h) : base.StaysIn (hideAll h (l.filterMap (·.frame))) := fun b o q => hideAll_get _ (P.stays b o q) fun hm => by
  rw [(P.frames.mem hm).1] at q; cases q
theorem leave_own {M : Model} {A : Around} {E : Value → Shared → Prop} {s : Shared} {env : Env} {outer : List Env} {base h : Heap} {L e : Addr} {cls : Value} {vs : List Value} {Q : Unit → Shared → Prop} (P : Below A base (env :: outer) h) (hf : env.frame = some L) (hx : Heap.MadeExcOf h s.heap e cls vs)
    (hQ : ∀ h' t, Heap.FlyingW (hideAll h ((env :: outer).filterMap (·.frame))) outer e cls (.ref t) h' → s.heap.UpToSlots h' → base.StaysIn (hideAll h ((env :: outer).filterMap (·.frame))) → Q () { s with heap := h' }) : wpAny M A (leaving env (.ref e)) Q E s :=
  wpAny_leaves_madeW P.stack hf (fun b o q => of_hideAll _ q) (funFrames_hide P.frames fun env he b hb => List.mem_filterMap.mpr ⟨env, he, hb⟩) hx fun h' t x1 _ _ x4 => hQ h' t x1 x4 (stays_hide P)
/-- what the end of a refused call says of the caller's heap -/
theorem refused_end {h h1 h2 h7 h8 h9 : Heap} {L L1 L2 e : Addr} {m1 m2 : Str → Option Value} {cls : Value} {vs : List Value} (F1 : Fr h L1 h1 m1) (F2 : Fr h1 L2 h2 m2) (hx : Heap.MadeExcOf h2 h7 e cls vs) (sm8 : h7.UpToSlots h8)
    (st : Heap.StaysIn (hideAll h2 [L2, L1, L]) h9) (sm9 : h8.UpToSlots h9) : KpBut L h h9 ∧ h.UpToSlots h9 := by
  refine ⟨fun b o ne q => st b o (hideAll_get _ (F2.keep _ _ (F1.keep _ _ q)) ?_), ?_⟩
  · have a1 := Heap.lt_size q
    have a2 := Heap.lt_size (F1.keep _ _ q)
    have a3 := F1.above
    have a4 := F2.above
    intro hm
    simp only [List.mem_cons, List.not_mem_nil, or_false] at hm
    rcases hm with z | z | z
    · exact Nat.ne_of_lt (Nat.lt_of_lt_of_le a2 a4) z
    · exact Nat.ne_of_lt (Nat.lt_of_lt_of_le a1 a3) z
    · exact ne z
  · exact (((Heap.UpToSlots.of_keeps fun b o q => hx.keeps _ _ (F2.keep _ _ (F1.keep _ _ q))).trans sm8).trans sm9)
end Mine
namespace Mine
open PySem PySem.W PySem.Spec PySem.Calls PyProof.Rows
theorem fill_RF : (fun (_ : OpenLaw) => hd.heap_39) PySem.Challenge.rw_nb0043_01 = hd.heap_39 := by
  k_fill
  rfl
local macro_rules | `(tactic| walk_at "go") => `(tactic| first | (k_unfold; (try dsimp only)) | ((with_reducible show wpAny _ _ _ _ _ _); first | walk1 | (dsimp only; walk1)) | ((with_reducible show Frag.In _ _ ∧ _); refine ⟨by k_in, ?_⟩; try dsimp only [List.nil_append, List.cons_append]) | (refine PySem.W.ite_neg Bool.false_ne_true ?_) | (refine PySem.W.ite_pos rfl ?_) | (refine PySem.W.ite_neg (by simp only [decide_eq_true_eq, beq_iff_eq]; omega) ?_) | (refine PySem.W.ite_pos (by simp only [decide_eq_true_eq, beq_iff_eq]; omega) ?_))
section
variable {prog : Program} {w : World} {E : Value → Shared → Prop} {s : Shared} {mg mb : Str → Option Value} {p : Program} {loose : List Str} {mean : ExcName → Option Value} {Q : Value → Shared → Prop}
set_option maxHeartbeats 4000000 in
theorem refused_none {A₀ : Around} {base h₀ : Heap} {L a d : Addr} {m : Str → Option Value} {dp un : Nat} {gd : Option (List Code)} {cn : Str} {cs : Scope} {ccd : Value} {cl : List (Str × Addr)}
    (B : Below A₀ base [] h₀) (F : Fr h₀ L s.heap m) (Xb : (hd.heap_39 w.params).In base) (Tb : Top p loose mean mg mb base) (hk : cs.kind = .function) (hdp : dp + 5 < recursionLimit) (hun : un + 60 < cLine)
    (hl : s.heap.IsList d ([] : List Value).toArray)
    (hQ : ∀ h' tk, KpBut L s.heap h' → s.heap.UpToSlots h' → Q (.bool true) { s with heap := h', toks := tk }) :
    wpAny (model prog w) (ktrTop dp un gd cn cs L a ccd cl []) (call (.ref 108) [.ref d, .none]) Q E s := by
  have X := Xb.keeps B.stays
  have T := Tb.keeps B.stays
  refine' call_fnB (binds := [("data", .ref d), ("weights", .none)]) B F X T ?kA ?kF ?kK ?k6 ?k7 ?k8 ?k9 ?kB ?c5 ?_ ?c2 ?c3 ?c4
  (case kA => exact rfl); (case kF => exact rfl); (case kK => exact hk); (case k6 => k_is); (case k7 => k_is)
  (case k8 => show dp < recursionLimit; omega)
  (case k9 => exact BindsTo.of_eq rfl)
  (case c5 => decide); (case kB => exact locs rfl); (case c2 => exact rfl); (case c3 => exact rfl); (case c4 => exact rfl)
  intro L' h' F' N' B' X' T'
  (try dsimp only)
  (with_reducible show wpAny _ _ _ _ _ _)
  k_fold
  clear X T
  repeat (fail_if_success (with_reducible show wpAny _ _ (call (Value.ref 63) _) _ _ _)); walk_at "go"
  refine' call_fnCB (binds := [("data", .ref d), ("weights", .none)]) B' F' X' T' ?kA ?kF ?kK ?k6 ?k7 ?k8 ?k9 ?kB ?kD ?_ ?c2 ?c3 ?c4
  (case kA => exact rfl); (case kF => exact rfl); (case kK => exact rfl); (case k6 => k_is); (case k7 => k_is)
  (case k8 => show dp + 1 < recursionLimit; omega)
  (case k9 => exact binds_K (by k_in) rfl (by k_is) rfl rfl rfl)
  (case kB => exact rfl); (case kD => decide +kernel); (case c2 => exact rfl); (case c3 => exact rfl); (case c4 => exact rfl)
  intro L2 h2 tk2 cells2 F2 N2 Y2 B2 X2 T2
  k_cells Y2
  (try simp only [List.cons_append, List.nil_append] at N2)
  (try dsimp only)
  (with_reducible show wpAny _ _ _ _ _ _)
  k_fold
  have hl2 : h'.IsList d ([] : List Value).toArray := isList_kp hl F'.keep
  repeat (fail_if_success (with_reducible show wpAny _ _ (exec (Stmt.Try _ _ _ _ _) _) _ _ _)); walk_at "go"
  refine wpAny_Try_except ?_
  repeat (fail_if_success (with_reducible show wpAny _ _ (call (Value.builtin "len") _) _ _ _)); walk_at "go"
  refine PySem.Calls.call_len_list (isList_kp hl2 (Fr.keep F2)) (by simp) ?_
  repeat (fail_if_success (with_reducible show wpAny _ _ (call (Value.builtin "math.fsum") _) _ _ _)); walk_at "go"
  rename Fr _ _ _ _ => F9
  rename News _ _ _ _ => N9
  refine call_fsum (vs := []) (ns := []) rfl (isList_kp hl2 F9.keep) IntsAre.nil (fun i _ => by simp) (fun n hn => nomatch hn) fun h5 tk5 x5 t5 hx5 k5 => ?_
  replace F9 := F9.after k5
  replace N9 := news_after N9 k5
  repeat (fail_if_success (with_reducible show wpAny _ _ (truthy _) _ _ _)); walk_at "go"
  refine truthy_int ?_
  rw [show (((#[] : Array Value).size : Int) != 0) = false from rfl]
  repeat (fail_if_success (with_reducible show wpAny _ _ (exec (Stmt.Raise _ _ _) _) _ _ _)); walk_at "go"
  rename Fr _ _ _ _ => F9
  rename News _ _ _ _ => N9
  refine raise_own1 X2 (topRead_of T2) F9.keep (by k_is) (by k_exc) PySem.F.excBase_ValueError rfl fun h7 tk7 e7 vs7 hx7 => ?_
  repeat (fail_if_success (with_reducible show wpAny _ _ (leaving _ _) _ _ _)); walk_at "go"
  refine leave_own (pushX B2 F9 rfl rfl) rfl hx7 fun h8 t8 hfl8 sm8 st8 => ?_
  refine catch_own1 rfl rfl hfl8 (Xb.keeps st8) (topRead_of (Tb.keeps st8)) (by k_is) (by k_exc) PySem.F.excBase_ValueError fun h9 st9 sm9 => ?_
  obtain ⟨z1, z2⟩ := refused_end F' F9 hx7 sm8 st9 sm9
  exact hQ _ _ z1 z2
end
end Mine
namespace Mine
open PySem PySem.W PySem.Spec PySem.Calls PyProof.Rows
theorem fill_RZ : (fun (_ : OpenLaw) => hd.heap_39) PySem.Challenge.rw_nb0043_01 = hd.heap_39 := by
  k_fill
  rfl
local macro_rules | `(tactic| walk_at "go") => `(tactic| first | (k_unfold; (try dsimp only)) | ((with_reducible show wpAny _ _ _ _ _ _); first | walk1 | (dsimp only; walk1)) | ((with_reducible show Frag.In _ _ ∧ _); refine ⟨by k_in, ?_⟩; try dsimp only [List.nil_append, List.cons_append]) | (refine PySem.W.ite_neg Bool.false_ne_true ?_) | (refine PySem.W.ite_pos rfl ?_) | (refine PySem.W.ite_neg (by simp only [decide_eq_true_eq, beq_iff_eq]; omega) ?_) | (refine PySem.W.ite_pos (by simp only [decide_eq_true_eq, beq_iff_eq]; omega) ?_))
section
variable {prog : Program} {w : World} {E : Value → Shared → Prop} {s : Shared} {mg mb : Str → Option Value} {p : Program} {loose : List Str} {mean : ExcName → Option Value} {Q : Value → Shared → Prop}
set_option maxHeartbeats 4000000 in
theorem refused_zero {A₀ : Around} {base h₀ : Heap} {L a d wt : Addr} {m : Str → Option Value} {dp un : Nat} {gd : Option (List Code)} {cn : Str} {cs : Scope} {ccd : Value} {cl : List (Str × Addr)}
    {xs : Array Value} {vs : List Value} {ns : List Int} {N : Int} {e : Nat}
    (B : Below A₀ base [] h₀) (F : Fr h₀ L s.heap m) (Xb : (hd.heap_39 w.params).In base) (Tb : Top p loose mean mg mb base) (hk : cs.kind = .function) (hdp : dp + 5 < recursionLimit) (hun : un + 60 < cLine)
    (hd' : s.heap.IsList d xs) (hw : s.heap.IsList wt vs.toArray) (hI : IntsAre vs ns) (hsp : SumP prog w d wt s.heap N e)
    (hb : ∀ i, i ≤ ns.length → (ns.take i).sum.natAbs ≤ 2 ^ 53) (hb' : ∀ n ∈ ns, n.natAbs ≤ 2 ^ 53) (hW : ns.sum = 0)
    (hQ : ∀ h' tk, KpBut L s.heap h' → s.heap.UpToSlots h' → Q (.bool true) { s with heap := h', toks := tk }) :
    wpAny (model prog w) (ktrTop dp un gd cn cs L a ccd cl []) (call (.ref 108) [.ref d, .ref wt]) Q E s := by
  have X := Xb.keeps B.stays
  have T := Tb.keeps B.stays
  refine' call_fnB (binds := [("data", .ref d), ("weights", .ref wt)]) B F X T ?kA ?kF ?kK ?k6 ?k7 ?k8 ?k9 ?kB ?c5 ?_ ?c2 ?c3 ?c4
  (case kA => exact rfl); (case kF => exact rfl); (case kK => exact hk); (case k6 => k_is); (case k7 => k_is)
  (case k8 => show dp < recursionLimit; omega)
  (case k9 => exact BindsTo.of_eq rfl)
  (case c5 => decide); (case kB => exact locs rfl); (case c2 => exact rfl); (case c3 => exact rfl); (case c4 => exact rfl)
  intro L' h' F' N' B' X' T'
  (try dsimp only)
  (with_reducible show wpAny _ _ _ _ _ _)
  k_fold
  clear X T
  repeat (fail_if_success (with_reducible show wpAny _ _ (call (Value.ref 63) _) _ _ _)); walk_at "go"
  refine' call_fnCB (binds := [("data", .ref d), ("weights", .ref wt)]) B' F' X' T' ?kA ?kF ?kK ?k6 ?k7 ?k8 ?k9 ?kB ?kD ?_ ?c2 ?c3 ?c4
  (case kA => exact rfl); (case kF => exact rfl); (case kK => exact rfl); (case k6 => k_is); (case k7 => k_is)
  (case k8 => show dp + 1 < recursionLimit; omega)
  (case k9 => exact binds_K (by k_in) rfl (by k_is) rfl rfl rfl)
  (case kB => exact rfl); (case kD => decide +kernel); (case c2 => exact rfl); (case c3 => exact rfl); (case c4 => exact rfl)
  intro L2 h2 tk2 cells2 F2 N2 Y2 B2 X2 T2
  k_cells Y2
  (try simp only [List.cons_append, List.nil_append] at N2)
  (try dsimp only)
  (with_reducible show wpAny _ _ _ _ _ _)
  k_fold
  have hw2 : h'.IsList wt vs.toArray := isList_kp hw F'.keep
  repeat walk_at "go"
  rename Fr _ _ _ _ => F9
  rename News _ _ _ _ => N9
  refine isi_lt (isList_kp hw2 F9.keep) (N9.get (List.Mem.head _)) fun tk2 => ?_
  repeat (fail_if_success (with_reducible show wpAny _ _ (exec (Stmt.Try _ _ _ _ _) _) _ _ _)); walk_at "go"
  refine wpAny_Try_except ?_
  repeat (fail_if_success (with_reducible show wpAny _ _ (call (Value.builtin "math.sumprod") _) _ _ _)); walk_at "go"
  rename Fr _ _ _ _ => F9
  rename News _ _ _ _ => N9
  refine hsp _ _ _ _ rfl (fun b o q => F9.keep _ _ (F'.keep _ _ q)) fun v h4 tk4 k4 hv => ?_
  replace F9 := F9.after k4
  replace N9 := news_after N9 k4
  repeat (fail_if_success (with_reducible show wpAny _ _ (call (Value.builtin "math.fsum") _) _ _ _)); walk_at "go"
  rename Fr _ _ _ _ => F9
  rename News _ _ _ _ => N9
  refine call_fsum rfl (isList_kp hw2 F9.keep) hI hb hb' fun h5 tk5 x5 t5 hx5 k5 => ?_
  replace F9 := F9.after k5
  replace N9 := news_after N9 k5
  have hz : Float64.isZero x5 = true := by rw [hx5.isZero]; simp [hW]
  repeat (fail_if_success (with_reducible show wpAny _ _ (truthy _) _ _ _)); walk_at "go"
  refine truthy_float ?_
  rw [hz]
  repeat (fail_if_success (with_reducible show wpAny _ _ (exec (Stmt.Raise _ _ _) _) _ _ _)); walk_at "go"
  rename Fr _ _ _ _ => F9
  rename News _ _ _ _ => N9
  refine raise_own1 X2 (topRead_of T2) F9.keep (by k_is) (by k_exc) PySem.F.excBase_ValueError rfl fun h7 tk7 e7 vs7 hx7 => ?_
  repeat (fail_if_success (with_reducible show wpAny _ _ (leaving _ _) _ _ _)); walk_at "go"
  refine leave_own (pushX B2 F9 rfl rfl) rfl hx7 fun h8 t8 hfl8 sm8 st8 => ?_
  refine catch_own1 rfl rfl hfl8 (Xb.keeps st8) (topRead_of (Tb.keeps st8)) (by k_is) (by k_exc) PySem.F.excBase_ValueError fun h9 st9 sm9 => ?_
  obtain ⟨z1, z2⟩ := refused_end F' F9 hx7 sm8 st9 sm9
  exact hQ _ _ z1 z2
end
end Mine
namespace Mine
open PySem PySem.W PySem.Spec PySem.Calls PyProof.Rows
theorem entry_unchain : entryFor table "proto.unchain" = some Builtin.«proto.unchain» := entryFor_of_tree (by kernel_rfl)
section
variable {prog : Program} {w : World} {A : Around} {E : Value → Shared → Prop} {s : Shared}
/-- raising while e1 is being handled, e1 being without a context -/
theorem raiseNew_some {α : Type} {Q : α → Shared → Prop} {e e1 : Addr} {o1 oe : Obj} {vs1 vs : Array Value} (hh : A.handled = some (.ref e1)) (ne : e1 ≠ e) (he1 : s.heap.get? e1 = some o1) (hd1 : o1.data = .fields vs1) (h2 : vs1[2]? = some .none)
    (he : s.heap.get? e = some oe) (hd : oe.data = .fields vs) (hsz : 2 < vs.size)
    (h : E (.ref e) { s with heap := s.heap.update e (Obj.mapFields (·.setIfInBounds 2 (.ref e1))) }) : wpAny (model prog w) A (raiseNew (.ref e) : Sem α) Q E s := by
  unfold raiseNew
  refine wpAny_bind (wpAny_handled ?_)
  rw [hh]
  dsimp only
  rw [if_pos (by simpa using ne)]
  refine wpAny_bind (wpAny_holding (wpAny_runValue (codeAny_builtin entry_unchain ?_)))
  unfold Builtin.«proto.unchain»
  dsimp only
  refine wpAny_bind (wpAny_field he1 hd1 h2 ?_)
  rw [if_pos (by decide)]
  refine wpAny_pure ?_
  dsimp only
  refine wpAny_bind (wpAny_setField he hd hsz ?_)
  exact wpAny_throw h

/-- the made exception with the handled one as its context -/
structure MadeIn (h h' : Heap) (e e1 : Addr) (cls : Value) : Prop where
  keeps : ∀ b o, h.get? b = some o → h'.get? b = some o
  new : h.get? e = none
  there : ∃ t, h'.get? e = some { cls := cls, data := .fields #[.ref t, .none, .ref e1, .none, .bool false, .none] }

theorem MadeIn.of {h h' : Heap} {e e1 : Addr} {cls : Value} {vs : List Value} (x : Heap.MadeExcOf h h' e cls vs) : MadeIn h (h'.update e (Obj.mapFields (·.setIfInBounds 2 (.ref e1)))) e e1 cls := by
  obtain ⟨t, ht, _, _⟩ := x.there
  refine ⟨fun b o q => ?_, x.new, t, ?_⟩
  · rw [Heap.get?_update_other _ _ (fun z => by subst z; rw [x.new] at q; cases q)]
    exact x.keeps _ _ q
  · rw [Heap.get?_update_self _ ht rfl]
    rfl
variable {env : Env} {h₀ : Heap} {mg mb : Str → Option Value} {p : Program} {loose : List Str} {K : Frag}
  {x : Str} {C : Addr} {B newId initId : String} {bm : List Value} {np cpos pos cp : Pos} {kk : Nat} {txt : Str} {Q : Flow → Shared → Prop}

/-- raise X("..") of an own class while e1 is handled, in any frame -/
theorem raise_own1h {e1 : Addr} {o1 : Obj} {vs1 : Array Value} (X : K.In h₀) (T : TopRead p loose mg mb h₀) (k : Kp h₀ s.heap) (ex : nsIn K mainGlobals x = some (some (.ref C))) (q : excIn K C bm newId = true) (FB : ExcBaseFacts B newId initId bm)
    (hh : A.handled = some (.ref e1)) (he1 : s.heap.get? e1 = some o1) (hd1 : o1.data = .fields vs1) (h2 : vs1[2]? = some .none)
    (h : ∀ h' tk e, MadeIn s.heap h' e e1 (.ref C) → E (.ref e) { s with heap := h', toks := tk })
    (hk : env.scope.kind = .function := by rfl) (hl : env.kindOf x = some .globalImplicit := by rfl) (hg : env.globals = mainGlobals := by rfl) (hd : (x == ("__debug__" : Str)) = false := by decide) :
    wpAny (model prog w) A (exec (.Raise (some (.Call (.Name x np) [.Constant (.str txt) kk cp] [] cpos)) none pos) env) Q E s := by
  obtain ⟨tl, N, nm, qn, bs, hdct, sn, sub, ab, col, dd, k0, k1, k2, k3, k5, mN, hC, hN, hni, TT⟩ := (own_of_in X T ex q).obj
  rw [arm_exec_Raise]
  refine wpAny_bind (wpAny_standAt ?_)
  have hbase := TT.hasType FB.hasBase
  have hcB : (Value.ref C :: tl).contains (.type "BaseException") = true := by rw [List.contains_cons, hbase, Bool.or_true]
  simp only [evalOpt, Option.map]
  unfold raiseStmt
  refine wpAny_bind (wpAny_bind (wpAny_Call_ofName (n_global X T k ex ?_ hk hl hg hd)))
  unfold callWith
  refine wpAny_bind (wpAny_holding (Calls.evalArgs_plain (Calls.spliced_cons (Constant_str (k := kk) (pos := cp) (Calls.spliced_nil ?_)))))
  refine wpAny_bind (wpAny_standAt ?_)
  have hplain : (backTo cpos (starEach [Expr.Constant (.str txt) kk cp] env)).any (·.1) = false := rfl
  simp only [hplain]
  refine wpAny_bind (wpAny_keeperOf_exc (k _ _ hC) ?_)
  refine wpAny_bind (wpAny_call_exc_subT (hrest := by simp [sizeLine]) FB (TT.keeps k) (k _ _ hC) (hN.keeps k) hni fun h' e hm => wpAny_bind (wpAny_holding (wpAny_point (wpAny_pure ?_))))
  refine wpAny_bind (wpAny_standAt (wpAny_pure ?_))
  obtain ⟨t, he, _, _⟩ := hm.there
  have hC' := hm.keeps _ _ (k _ _ hC)
  have ne : e1 ≠ e := fun z => by have z2 := hm.new; rw [← z, he1] at z2; cases z2
  have he1' := hm.keeps _ _ he1
  obtain ⟨hp, g, d, tk, os⟩ := s
  dsimp only
  repeat (first | with_reducible refine wpAny_loadPart_at he ?_ | with_reducible refine wpAny_loadPart_at hC' ?_ | (with_reducible refine wpAny_isSubtype_exc hC' ?_; rw [hcB]) | wp_step)
  refine raiseNew_some hh ne he1' hd1 h2 he rfl (by simp) (h _ _ _ (MadeIn.of hm))
end
end Mine
namespace Mine
open PySem PySem.W PySem.Spec PySem.Calls PyProof.Rows
section
variable {M : Model} {A : Around} {E : Value → Shared → Prop} {s : Shared} {env : Env} {outer l : List Env} {base : Heap} {L e : Addr} {cls a0 : Value} {oe : Obj} {vs : Array Value} {Q : Unit → Shared → Prop}
/-- an exception on its way, with a traceback and no context -/
structure Ctx0 (base : Heap) (l : List Env) (e : Addr) (cls : Value) (h : Heap) : Prop where
  stays : base.StaysIn h
  new : base.get? e = none
  frames : h.FunFrames base l
  at_ : ∃ oe vs T oT ts, h.get? e = some oe ∧ oe.cls = cls ∧ oe.data = .fields vs ∧ vs[1]? = some (.ref T) ∧ vs[2]? = some .none ∧ base.get? T = none ∧ T ≠ e ∧ h.get? T = some oT ∧ oT.data = .fields ts ∧ 3 < ts.size

/-- the frame noted on a new exception, its context not touched -/
theorem note_ctx (hfr : A.frames = some (env :: outer)) (hl : s.heap.FunFrames base (env :: outer)) (hf : env.frame = some L)
    (he : s.heap.get? e = some oe) (hkb : base.StaysIn s.heap) (hen : base.get? e = none) (hd : oe.data = .fields vs) (h1 : vs[1]? = some .none) (h2 : vs[2]? = some .none)
    (h : ∀ h', Ctx0 base (env :: outer) e oe.cls h' → s.heap.UpToSlots h' → Q () { s with heap := h' }) : wpAny M A (noteFrame (.ref e) env) Q E s := by
  have hsz := (Array.getElem?_eq_some_iff.mp h1).1
  unfold noteFrame
  simp only [hf]
  refine wpAny_bind (wpAny_field he hd h1 ?_)
  rw [if_neg (by decide)]
  have hene : e ∉ (env :: outer).filterMap (·.frame) := fun hm => by
    obtain ⟨_, o, ho, hnf⟩ := hl.mem hm
    rw [he] at ho; cases ho; exact hnf vs hd
  refine wpAny_bind (wpAny_frameOf_fun hfr hl hf fun h₁ hs₁ => ?_)
  refine wpAny_bind (wpAny_entryPlaceOf fun pl hpl => ?_)
  unfold EntryCells.newEntry newFields
  refine wpAny_bind (wpAny_newObj_type ?_ (hpl.sizeOk5 _ _ _ _ _))
  generalize hob : ({ cls := .type "traceback", dict := none, data := .fields ([Value.none, .ref L, .none, rawInt L, .none] ++ (if pl.isEmpty then List.replicate 6 Value.none else pl)).toArray } : Obj) = ob
  have hobs : ∃ ts, ob.data = .fields ts ∧ 3 < ts.size := by
    subst hob
    refine ⟨_, rfl, ?_⟩
    rw [List.size_toArray, List.length_append]
    simp only [List.length_cons, List.length_nil]
    omega
  obtain ⟨ts, hts, htz⟩ := hobs
  have hnfr : ob.isFreed = false := Obj.isFreed_of_fields hts
  have he₁ : h₁.get? e = some oe := (hs₁.2.1 e hene).trans he
  have he₂ := Heap.get?_push_of_some (h := h₁) ob he₁
  have hTe : h₁.objs.size ≠ e := Nat.ne_of_gt (Heap.lt_size he₁)
  refine wpAny_setField he₂ hd hsz (h _ ?_ ?_)
  · have kb₁ : base.StaysIn h₁ := fun b o hbo => (hs₁.2.1 b fun hm => by rw [(hl.mem hm).1] at hbo; cases hbo).trans (hkb b o hbo)
    have up : ∀ b o, b ≠ e → h₁.get? b = some o → ((h₁.push ob).update e (Obj.mapFields (·.setIfInBounds 1 (Value.ref h₁.objs.size)))).get? b = some o := fun b o nb q => by
      rw [Heap.get?_update_other _ _ (Ne.symm nb)]; exact Heap.get?_push_of_some _ q
    have hd₃ := Obj.data_mapFields hd (·.setIfInBounds 1 (Value.ref h₁.objs.size))
    refine ⟨fun b o q => up b o (fun z => by subst z; rw [hen] at q; cases q) (kb₁ b o q), hen, hl.of_keeps fun b o q nf => ?_, ?_⟩
    · obtain ⟨sl, q'⟩ := hs₁.2.2 b o q
      exact ⟨_, up b _ (fun z => by subst z; rw [he] at q; cases q; exact nf vs hd) q', rfl⟩
    · refine ⟨_, _, h₁.objs.size, ob, ts, Heap.get?_update_self _ he₂ (Obj.isFreed_of_fields hd₃), Obj.cls_mapFields _ _, hd₃, by simp [hsz], ?_, kb₁.fresh, hTe, ?_, hts, htz⟩
      · rw [Array.getElem?_setIfInBounds_ne (by decide)]; exact h2
      · rw [Heap.get?_update_other _ _ (Ne.symm hTe)]
        exact Heap.get?_push_size h₁ hnfr
  · intro b o q nf
    obtain ⟨sl, q'⟩ := hs₁.2.2 b o q
    refine ⟨sl, ?_⟩
    have nb : b ≠ e := fun z => by subst z; rw [he] at q; cases q; exact nf vs hd
    rw [Heap.get?_update_other _ _ (Ne.symm nb)]
    exact Heap.get?_push_of_some _ q'

theorem flight_ctx (hh : Ctx0 base l e cls s.heap) (hQ : ∀ h', Ctx0 base l e cls h' → s.heap.UpToSlots h' → Q () { s with heap := h' }) : wpAny M A (setFlight (.ref e) none) Q E s := by
  obtain ⟨f1, f2, f3, oe, vs, T, oT, ts, he, hc, hd, h1, h2, hnT, hTe, hT, hdT, h3⟩ := hh
  have other : ∀ b, b ≠ T → (s.heap.update T (Obj.mapFields (·.setIfInBounds 3 ((none : Option Addr).elim Value.none fun f => rawInt f)))).get? b = s.heap.get? b := fun b hb => Heap.get?_update_other _ _ (Ne.symm hb)
  have noT : ∀ b o, s.heap.get? b = some o → (∀ vs, o.data ≠ .fields vs) → b ≠ T := fun b o q nf z => by
    subst z; rw [hT] at q; cases q; exact nf ts hdT
  unfold setFlight
  refine wpAny_bind (wpAny_field he hd h1 ?_)
  rw [if_pos (show (Value.ref T != Value.none) = true from by simp)]
  refine wpAny_setField hT hdT h3 (hQ _ ⟨fun b o q => (other b fun z => by subst z; rw [hnT] at q; cases q).trans (f1 b o q), f2, f3.of_keeps fun b o q nf => ⟨o, (other b (noT b o q nf)).trans q, rfl⟩, ?_⟩ fun b o q nf => ⟨o.slots, (other b (noT b o q nf)).trans q⟩)
  exact ⟨oe, vs, T, _, _, (other e (Ne.symm hTe)).trans he, hc, hd, h1, h2, hnT, hTe, Heap.get?_update_self _ hT (Obj.isFreed_of_fields (Obj.data_mapFields hdT _)), Obj.data_mapFields hdT _, by simp [h3]⟩

/-- the frame noted on a new exception -/
theorem note_first (hfr : A.frames = some (env :: outer)) (hl : s.heap.FunFrames base (env :: outer)) (hf : env.frame = some L)
    (he : s.heap.get? e = some oe) (hkb : base.StaysIn s.heap) (hen : base.get? e = none) (hd : oe.data = .fields vs) (h1 : vs[1]? = some .none) (h0 : vs[0]? = some a0)
    (h : ∀ h', Heap.HeldW base (env :: outer) e oe.cls a0 L h' → s.heap.UpToSlots h' → Q () { s with heap := h' }) : wpAny M A (noteFrame (.ref e) env) Q E s := by
  unfold noteFrame
  simp only [hf]
  refine wpAny_bind (wpAny_field he hd h1 ?_)
  rw [if_neg (by decide)]
  exact wpAny_entryW hfr hl hf he hkb hen hd (Array.getElem?_eq_some_iff.mp h1).1 h0 fun h' ⟨x1, x2, x3, x4⟩ => h h' ⟨x1, hen, x2, x3⟩ x4

/-- back in the frame with an exception that has been noted there -/
theorem came_back {E' : Value → Shared → Prop} (hh : Heap.HeldW base l e cls a0 L s.heap) (hf : env.frame = some L) (h : ∀ h', Heap.HeldW base l e cls a0 L h' → s.heap.UpToSlots h' → E' (.ref e) { s with heap := h' }) : cameBackBy M A env E' (.ref e) s := by
  obtain ⟨f1, f2, f3, oe, vs, T, oT, ts, he, hc, hd, h1, hnT, hTe, hT, hdT, h3⟩ := hh
  have hsz := (Array.getElem?_eq_some_iff.mp h3).1
  have other : ∀ b, b ≠ T → (s.heap.update T (Obj.mapFields (·.setIfInBounds 3 ((some L : Option Addr).elim Value.none fun f => rawInt f)))).get? b = s.heap.get? b := fun b hb => Heap.get?_update_other _ _ (Ne.symm hb)
  have noT : ∀ b o, s.heap.get? b = some o → (∀ vs, o.data ≠ .fields vs) → b ≠ T := fun b o q nf z => by
    subst z; rw [hT] at q; cases q; exact nf ts hdT
  show wpAny _ _ _ _ _ _
  refine wpAny_bind (wpAny_field he hd h1 ?_)
  rw [if_neg (show ¬ ((Value.ref T == Value.none) = true) from by simp)]
  unfold setFlight
  rw [hf]
  refine wpAny_bind (wpAny_field he hd h1 ?_)
  rw [if_pos (show (Value.ref T != Value.none) = true from by simp)]
  refine wpAny_setField hT hdT hsz (h _ ⟨fun b o q => (other b fun z => by subst z; rw [hnT] at q; cases q).trans (f1 b o q), f2, f3.of_keeps fun b o q nf => ⟨o, (other b (noT b o q nf)).trans q, rfl⟩, ?_⟩ fun b o q nf => ⟨o.slots, (other b (noT b o q nf)).trans q⟩)
  exact ⟨oe, vs, T, _, _, (other e (Ne.symm hTe)).trans he, hc, hd, h1, hnT, hTe, Heap.get?_update_self _ hT (Obj.isFreed_of_fields (Obj.data_mapFields hdT _)), Obj.data_mapFields hdT _, by simp [hsz]⟩
end
end Mine
namespace Mine
open PySem PySem.W PySem.Spec PySem.Calls PyProof.Rows
theorem fill_RU : (fun (_ : OpenLaw) => hd.heap_39) PySem.Challenge.rw_nb0043_01 = hd.heap_39 := by
  k_fill
  rfl
section
variable {prog : Program} {w : World} {A : Around} {E : Value → Shared → Prop} {s : Shared} {env : Env} {mg mb : Str → Option Value} {p : Program} {loose : List Str} {K : Frag}
  {x : Str} {C : Addr} {B newId initId : String} {bm : List Value} {np vp cpos pos cp ep : Pos} {kk : Nat} {txt : Str} {Q : Flow → Shared → Prop} {base hX : Heap} {outer : List Env} {L e : Addr}

/-- except ValueError: raise X("..") of an own class, in any frame, none handled before -/
theorem catch_reraise (hfr : A.frames = some (env :: outer)) (hf : env.frame = some L) (hl : hX.FunFrames base (env :: outer)) (hkb : base.StaysIn hX) (hx : Heap.NewExc hX s.heap e "ValueError")
    (X : K.In base) (T : TopRead p loose mg mb base) (ex : nsIn K mainGlobals x = some (some (.ref C))) (q : excIn K C bm newId = true) (FB : ExcBaseFacts B newId initId bm) (ev : nsIn K mainGlobals "ValueError" = some none)
    (h : ∀ h' tk e2 a0, Heap.HeldW base (env :: outer) e2 (.ref C) a0 L h' → hX.UpToSlots h' → E (.ref e2) { s with heap := h', toks := tk })
    (hk : env.scope.kind = .function := by rfl) (hl1 : env.kindOf x = some .globalImplicit := by rfl) (hl2 : env.kindOf "ValueError" = some .globalImplicit := by rfl) (hg : env.globals = mainGlobals := by rfl) (hbu : env.builtins = builtinsNs := by rfl) (hd : (x == ("__debug__" : Str)) = false := by decide) :
    wpAny (model prog w) A (noteFrame (.ref e) env) (fun _ s₂ => wpAny (model prog w) A (setFlight (.ref e) none) (fun _ s₃ =>
      wpAny (model prog w) A (handleBy (.ref e) env [.ExceptHandler (some (.Name "ValueError" vp)) none [.Raise (some (.Call (.Name x np) [.Constant (.str txt) kk cp] [] cpos)) none pos] ep]) Q E s₃) E s₂) E s := by
  obtain ⟨ob, t, he, hc, hdt⟩ := hx.there
  have hen : base.get? e = none := by
    cases z : base.get? e with
    | none => rfl
    | some o => have z1 := hkb _ _ z; rw [hx.new] at z1; cases z1
  refine note_ctx hfr (hl.of_keeps fun b o q _ => ⟨o, hx.keeps b o q, rfl⟩) hf he (fun b o q => hx.keeps b o (hkb b o q)) hen hdt rfl rfl fun h1 c1 u1 => ?_
  refine flight_ctx c1 fun h2 c2 u2 => ?_
  refine wpAny_handleBy_builtin (X := "ValueError") (T := "ValueError") (b := true) (by rw [isSubtype_type]; kernel_rfl) (by rw [isSubtype_type]; kernel_rfl) (by rw [isSubtype_type]; kernel_rfl)
    (n_builtin X T c2.stays ev (v := .type "ValueError") (by rfl) (by decide) ⟨rfl, ?_, ?_⟩ hk hl2 hg hbu)
  · obtain ⟨oe, vs, T', oT, ts, he2, hc2, _⟩ := c2.at_
    exact ⟨oe, he2, hc2.trans hc⟩
  rw [if_pos rfl]
  refine flight_ctx c2 fun h3 c3 u3 => ?_
  refine wpAny_execs_cons ?_
  obtain ⟨oe, vs, T', oT, ts, he3, hc3, hd3, h13, h23, hnT, hTe, _⟩ := c3.at_
  refine raise_own1h X T c3.stays ex q FB rfl he3 hd3 h23 (fun h4 tk4 e2 m4 => ?_) hk hl1 hg hd
  obtain ⟨t2, ht2⟩ := m4.there
  have hen2 : base.get? e2 = none := by
    cases z : base.get? e2 with
    | none => rfl
    | some o => have z1 := c3.stays _ _ z; rw [m4.new] at z1; cases z1
  show wpAny _ _ _ _ _ _
  refine note_first hfr (c3.frames.of_keeps fun b o q _ => ⟨o, m4.keeps b o q, rfl⟩) hf ht2 (fun b o q => m4.keeps b o (c3.stays b o q)) hen2 rfl rfl rfl fun h5 hd5 u5 => ?_
  refine came_back hd5 hf fun h6 hd6 u6 => ?_
  exact h h6 _ e2 _ hd6 (((((((Heap.UpToSlots.of_keeps hx.keeps).trans u1).trans u2).trans u3).trans (Heap.UpToSlots.of_keeps m4.keeps)).trans u5).trans u6)
end
theorem leave_held {M : Model} {A : Around} {E : Value → Shared → Prop} {s : Shared} {base : Heap} {env : Env} {outer : List Env} {L e : Addr} {cls a0 : Value} {Q : Unit → Shared → Prop} (hf : env.frame = some L)
    (hh : Heap.HeldW base (env :: outer) e cls a0 L s.heap) (hQ : ∀ h', Heap.FlyingW base outer e cls a0 h' → s.heap.UpToSlots h' → Q () { s with heap := h' }) : wpAny M A (leaving env (.ref e)) Q E s := by
  unfold leaving
  refine wpAny_bind (wpAny_noteFrame_againW hf hh.2.2.2 ?_)
  refine wpAny_landsW hh fun h' hfl u => ?_
  obtain ⟨k1, k2, ⟨_, _, k3⟩, k4⟩ := hfl
  exact hQ h' ⟨k1, k2, k3, k4⟩ u
theorem refused_end2 {h h1 h2 h9 : Heap} {L L1 L2 : Addr} {m1 m2 : Str → Option Value} (F1 : Fr h L1 h1 m1) (F2 : Fr h1 L2 h2 m2) (st : Heap.StaysIn (hideAll h2 [L2, L1, L]) h9) (up : h2.UpToSlots h9) : KpBut L h h9 ∧ h.UpToSlots h9 := by
  refine ⟨fun b o ne q => st b o (hideAll_get _ (F2.keep _ _ (F1.keep _ _ q)) ?_), ?_⟩
  · have a1 := Heap.lt_size q
    have a2 := Heap.lt_size (F1.keep _ _ q)
    intro hm
    simp only [List.mem_cons, List.not_mem_nil, or_false] at hm
    rcases hm with z | z | z
    · exact Nat.ne_of_lt (Nat.lt_of_lt_of_le a2 F2.above) z
    · exact Nat.ne_of_lt (Nat.lt_of_lt_of_le a1 F1.above) z
    · exact ne z
  · exact (Heap.UpToSlots.of_keeps fun b o q => F2.keep _ _ (F1.keep _ _ q)).trans up
local macro_rules | `(tactic| walk_at "go") => `(tactic| first | (k_unfold; (try dsimp only)) | ((with_reducible show wpAny _ _ _ _ _ _); first | walk1 | (dsimp only; walk1)) | ((with_reducible show Frag.In _ _ ∧ _); refine ⟨by k_in, ?_⟩; try dsimp only [List.nil_append, List.cons_append]) | (refine PySem.W.ite_neg Bool.false_ne_true ?_) | (refine PySem.W.ite_pos rfl ?_) | (refine PySem.W.ite_neg (by simp only [decide_eq_true_eq, beq_iff_eq]; omega) ?_) | (refine PySem.W.ite_pos (by simp only [decide_eq_true_eq, beq_iff_eq]; omega) ?_))
section
variable {prog : Program} {w : World} {E : Value → Shared → Prop} {s : Shared} {mg mb : Str → Option Value} {p : Program} {loose : List Str} {mean : ExcName → Option Value} {Q : Value → Shared → Prop}
set_option maxHeartbeats 4000000 in
theorem refused_unlike {A₀ : Around} {base h₀ : Heap} {L a d wt : Addr} {m : Str → Option Value} {dp un : Nat} {gd : Option (List Code)} {cn : Str} {cs : Scope} {ccd : Value} {cl : List (Str × Addr)}
    {xs ys : Array Value} {f g : Nat → Int} {n : Nat}
    (B : Below A₀ base [] h₀) (F : Fr h₀ L s.heap m) (Xb : (hd.heap_39 w.params).In base) (Tb : Top p loose mean mg mb base) (hk : cs.kind = .function) (hdp : dp + 5 < recursionLimit) (hun : un + 60 < cLine)
    (hd' : s.heap.IsList d xs) (hw : s.heap.IsList wt ys) (hx : IntAt xs n f) (hy : IntAt ys n g) (hn : (xs.size = n ∧ n < ys.size) ∨ (ys.size = n ∧ n < xs.size)) (ok : DotOk f g n)
    (hQ : ∀ h' tk, KpBut L s.heap h' → s.heap.UpToSlots h' → Q (.bool true) { s with heap := h', toks := tk }) :
    wpAny (model prog w) (ktrTop dp un gd cn cs L a ccd cl []) (call (.ref 108) [.ref d, .ref wt]) Q E s := by
  have X := Xb.keeps B.stays
  have T := Tb.keeps B.stays
  refine' call_fnB (binds := [("data", .ref d), ("weights", .ref wt)]) B F X T ?kA ?kF ?kK ?k6 ?k7 ?k8 ?k9 ?kB ?c5 ?_ ?c2 ?c3 ?c4
  (case kA => exact rfl); (case kF => exact rfl); (case kK => exact hk); (case k6 => k_is); (case k7 => k_is)
  (case k8 => show dp < recursionLimit; omega)
  (case k9 => exact BindsTo.of_eq rfl)
  (case c5 => decide); (case kB => exact locs rfl); (case c2 => exact rfl); (case c3 => exact rfl); (case c4 => exact rfl)
  intro L' h' F' N' B' X' T'
  (try dsimp only)
  (with_reducible show wpAny _ _ _ _ _ _)
  k_fold
  clear X T
  repeat (fail_if_success (with_reducible show wpAny _ _ (call (Value.ref 63) _) _ _ _)); walk_at "go"
  refine' call_fnCB (binds := [("data", .ref d), ("weights", .ref wt)]) B' F' X' T' ?kA ?kF ?kK ?k6 ?k7 ?k8 ?k9 ?kB ?kD ?_ ?c2 ?c3 ?c4
  (case kA => exact rfl); (case kF => exact rfl); (case kK => exact rfl); (case k6 => k_is); (case k7 => k_is)
  (case k8 => show dp + 1 < recursionLimit; omega)
  (case k9 => exact binds_K (by k_in) rfl (by k_is) rfl rfl rfl)
  (case kB => exact rfl); (case kD => decide +kernel); (case c2 => exact rfl); (case c3 => exact rfl); (case c4 => exact rfl)
  intro L2 h2 tk2 cells2 F2 N2 Y2 B2 X2 T2
  k_cells Y2
  (try simp only [List.cons_append, List.nil_append] at N2)
  (try dsimp only)
  (with_reducible show wpAny _ _ _ _ _ _)
  k_fold
  have hw2 : h'.IsList wt ys := isList_kp hw F'.keep
  repeat walk_at "go"
  rename Fr _ _ _ _ => F9
  rename News _ _ _ _ => N9
  refine isi_lt (isList_kp hw2 F9.keep) (N9.get (List.Mem.head _)) fun tk2 => ?_
  repeat (fail_if_success (with_reducible show wpAny _ _ (exec (Stmt.Try _ _ _ _ _) _) _ _ _)); walk_at "go"
  refine wpAny_Try_except ?_
  repeat (fail_if_success (with_reducible show wpAny _ _ (call (Value.builtin "math.sumprod") _) _ _ _)); walk_at "go"
  rename Fr _ _ _ _ => F9
  rename News _ _ _ _ => N9
  refine call_sumprod_unlike rfl (isList_kp (isList_kp hd' F'.keep) F9.keep) (isList_kp hw2 F9.keep) hx hy hn ok fun h4 tk4 e4 hx4 => ?_
  repeat (fail_if_success (with_reducible show wpAny _ _ (noteFrame _ _) _ _ _)); walk_at "go"
  have P9 := fun (env : Env) (hf : env.frame = some L2) (hk : env.scope.kind = .function) => pushX B2 F9 hf hk
  refine catch_reraise (base := hideAll _ _) rfl rfl (funFrames_hide (P9 _ rfl rfl).frames fun env he b hb => List.mem_filterMap.mpr ⟨env, he, hb⟩) (fun b o q => of_hideAll _ q) hx4 (Xb.keeps (stays_hide (P9 _ rfl rfl))) (topRead_of (Tb.keeps (stays_hide (P9 _ rfl rfl)))) (by k_is) (by k_exc) PySem.F.excBase_ValueError (by k_is) fun h5 tk5 e5 a5 hd5 u5 => ?_
  repeat (fail_if_success (with_reducible show wpAny _ _ (leaving _ _) _ _ _)); walk_at "go"
  refine leave_held rfl hd5 fun h8 hfl8 u8 => ?_
  refine catch_own1 rfl rfl hfl8 (Xb.keeps (stays_hide (P9 _ rfl rfl))) (topRead_of (Tb.keeps (stays_hide (P9 _ rfl rfl)))) (by k_is) (by k_exc) PySem.F.excBase_ValueError fun h9 st9 sm9 => ?_
  obtain ⟨z1, z2⟩ := refused_end2 F' F9 st9 ((u5.trans u8).trans sm9)
  exact hQ _ _ z1 z2
end
end Mine
namespace Mine
open PySem PySem.W PySem.Spec PySem.Calls PyProof.Rows
noncomputable def lawF (P : Params) : FuncData := match (hd.heap_39 P).lookup 113 with
  | some ⟨_, _, .func f, _⟩ => f
  | _ => default
noncomputable def lawBody (P : Params) : List Stmt := match (lawF P).body with
  | .stmts b => b
  | _ => []
noncomputable def lawScope (P : Params) : Scope := (lawF P).scope
/-- the k-th statement of the law -/
noncomputable def stm (P : Params) (k : Nat) : Stmt := (lawBody P).getD k (.Pass ⟨0, 0, 0, 0⟩)
theorem law_is {P : Params} {oc : Value} {od : Option Addr} {name qual : Str} {params : Arguments} {body : List Stmt} {scope : Scope} {dV kV doc pm cdv ct : Value} {an : Option Addr} {osl : Array (Option Value)}
    (h : (hd.heap_39 P).lookup 113 = some ⟨oc, od, .func (fnOf name qual params body scope dV kV doc pm an cdv ct), osl⟩) : lawBody P = body ∧ lawScope P = scope := by
  have : lawF P = fnOf name qual params body scope dV kV doc pm an cdv ct := by unfold lawF; rw [h]
  unfold lawBody lawScope
  rw [this]
  exact ⟨rfl, rfl⟩
/-- law's frame -/
noncomputable abbrev lawEnv (P : Params) (L a : Addr) (cd : Value) : Env := envOfC (Str.ofString "law") (lawScope P) L a cd
noncomputable abbrev lawA (P : Params) (L a : Addr) (cd : Value) : Around := callerA.deeper (lawEnv P L a cd)
theorem law_room (env : Env) : (callerA.deeper env).depth + 5 < recursionLimit := by
  show callerA.depth + 1 + 5 < recursionLimit
  decide
/-- law's figures -/
def figs (ns : List Int) : List Int := (ns.take 24).map (fun x => x.fmod 16) ++ [3, 0, 12, 1, 9, 15, 2]
theorem range_map (l : List Int) (f : Int → Int) : (List.range l.length).map (fun i => f (l.getD i 0)) = l.map f := by
  apply List.ext_getElem
  · simp
  · intro i h1 h2
    have h3 : i < l.length := by simpa using h1
    simp only [List.getElem_map, List.getElem_range, List.getD_eq_getElem?_getD, List.getElem?_eq_getElem h3, Option.getD_some]
theorem nw {h₀ h : Heap} {L : Addr} {p : Addr × Obj} {x y : List (Addr × Obj)} (N : News h₀ L h x) (hp : p ∈ x) (M : News h₀ L h y) : News h₀ L h (p :: y) := fun q hq => by
  rcases List.mem_cons.mp hq with rfl | hq
  · exact N _ hp
  · exact M _ hq
theorem ntl {h₀ h : Heap} {L : Addr} {p : Addr × Obj} {x : List (Addr × Obj)} (N : News h₀ L h (p :: x)) : News h₀ L h x := fun q hq => N q (List.mem_cons_of_mem _ hq)
def NoCell (news : List (Addr × Obj)) : Prop := ∀ p ∈ news, ∀ v, p.2.data ≠ .cell v
theorem NoCell.cons {p : Addr × Obj} {news : List (Addr × Obj)} (h : ∀ v, p.2.data ≠ .cell v) (x : NoCell news) : NoCell (p :: news) := fun q hq => by
  rcases List.mem_cons.mp hq with rfl | hq
  · exact h
  · exact x q hq
theorem adr (L : Nat) : L + 1 + 1 + 1 ≠ L + 1 ∧ L + 1 + 1 ≠ L + 1 ∧ L + 1 + 1 + 1 ≠ L + 1 + 1 := by omega
/-- law's frame, its three cells, and what else is new -/
structure Lw (h₀ : Heap) (L : Addr) (h : Heap) (m : Str → Option Value) (v1 v2 v3 : Option Value) (news : List (Addr × Obj)) : Prop where
  fr : Fr h₀ L h m
  cells : ∃ o1 o2 o3 : Obj, o1.data = .cell v1 ∧ o2.data = .cell v2 ∧ o3.data = .cell v3 ∧ News h₀ L h ((L + 1 + 1 + 1, o3) :: (L + 1 + 1, o2) :: (L + 1, o1) :: news)
  plain : NoCell news
section
variable {h₀ h h' : Heap} {L : Addr} {m m' : Str → Option Value} {v1 v2 v3 : Option Value} {news : List (Addr × Obj)}
theorem Lw.but (S : Lw h₀ L h m v1 v2 v3 news) (k : KpBut L h h') (hn : h'.Ns L m') : Lw h₀ L h' m' v1 v2 v3 news := by
  obtain ⟨F, ⟨o1, o2, o3, d1, d2, d3, N⟩, P⟩ := S
  exact ⟨fr_but F k hn, ⟨o1, o2, o3, d1, d2, d3, news_but N k⟩, P⟩
theorem Lw.after (S : Lw h₀ L h m v1 v2 v3 news) (k : Kp h h') : Lw h₀ L h' m v1 v2 v3 news := S.but k.but (S.fr.after k).ns
theorem Lw.add (S : Lw h₀ L h m v1 v2 v3 news) (k : Kp h h') {D : Addr} {o : Obj} (hD : h.get? D = none) (hd : h'.get? D = some o) (ho : ∀ v, o.data ≠ .cell v) : Lw h₀ L h' m v1 v2 v3 ((D, o) :: news) := by
  have F := S.fr
  obtain ⟨F', ⟨o1, o2, o3, d1, d2, d3, N⟩, P⟩ := S.after k
  obtain ⟨_, ⟨_, _, _, _, _, _, N0⟩, _⟩ := S
  have N2 := news_add (o := o) F (ntl (ntl (ntl N0))) k hD hd
  refine ⟨F', ⟨o1, o2, o3, d1, d2, d3, nw N (.head _) (nw N (.tail _ (.head _)) (nw N (.tail _ (.tail _ (.head _))) N2))⟩, P.cons ho⟩
theorem Lw.tl {p : Addr × Obj} (S : Lw h₀ L h m v1 v2 v3 (p :: news)) : Lw h₀ L h m v1 v2 v3 news := by
  obtain ⟨F, ⟨o1, o2, o3, d1, d2, d3, N⟩, P⟩ := S
  exact ⟨F, ⟨o1, o2, o3, d1, d2, d3, nw N (.head _) (nw N (.tail _ (.head _)) (nw N (.tail _ (.tail _ (.head _))) (ntl (ntl (ntl (ntl N))))))⟩, fun q hq => P q (List.mem_cons_of_mem _ hq)⟩
theorem Lw.nws (S : Lw h₀ L h m v1 v2 v3 news) : News h₀ L h news := by
  obtain ⟨F, ⟨o1, o2, o3, d1, d2, d3, N⟩, P⟩ := S
  exact ntl (ntl (ntl N))
theorem Lw.c1 (S : Lw h₀ L h m v1 v2 v3 news) : h.IsCell (L + 1) v1 := by
  obtain ⟨F, ⟨o1, o2, o3, d1, d2, d3, N⟩, P⟩ := S
  exact ⟨o1, N.get (.tail _ (.tail _ (.head _))), d1⟩
theorem Lw.c2 (S : Lw h₀ L h m v1 v2 v3 news) : h.IsCell (L + 1 + 1) v2 := by
  obtain ⟨F, ⟨o1, o2, o3, d1, d2, d3, N⟩, P⟩ := S
  exact ⟨o2, N.get (.tail _ (.head _)), d2⟩
theorem Lw.c3 (S : Lw h₀ L h m v1 v2 v3 news) : h.IsCell (L + 1 + 1 + 1) v3 := by
  obtain ⟨F, ⟨o1, o2, o3, d1, d2, d3, N⟩, P⟩ := S
  exact ⟨o3, N.get (.head _), d3⟩
theorem Lw.off (S : Lw h₀ L h m v1 v2 v3 news) {c : Addr} {u : Option Value} (hc : h.IsCell c u) : ∀ p ∈ news, p.1 ≠ c := fun p hp e => by
  obtain ⟨o, ho, hd⟩ := hc
  have h1 := (S.nws p hp).1
  rw [e, ho] at h1
  cases h1
  exact S.plain p hp _ hd
theorem Lw.set1 (S : Lw h₀ L h m v1 v2 v3 news) {v : Value} (hc : h'.IsCell (L + 1) (some v)) (hs : Heap.SameBut (L + 1) h h') : Lw h₀ L h' m (some v) v2 v3 news := by
  have off := S.off S.c1
  obtain ⟨F, ⟨o1, o2, o3, d1, d2, d3, N⟩, P⟩ := S
  obtain ⟨o, ho, hd⟩ := hc
  have n1 := N _ (.tail _ (.tail _ (.head _)))
  have n2 := N _ (.tail _ (.head _))
  have n3 := N _ (.head _)
  refine ⟨⟨F.ns.sameBut hs (fun e => n1.2.1 e.symm), fun b o e => hs.extBut b o (fun e' => by rw [e', n1.2.2] at e; cases e) (F.keep b o e), F.above⟩, ⟨o, o2, o3, hd, d2, d3, fun q hq => ?_⟩, P⟩
  rcases List.mem_cons.mp hq with rfl | hq
  · exact ⟨hs.extBut _ _ (adr L).1 n3.1, n3.2⟩
  rcases List.mem_cons.mp hq with rfl | hq
  · exact ⟨hs.extBut _ _ (adr L).2.1 n2.1, n2.2⟩
  rcases List.mem_cons.mp hq with rfl | hq
  · exact ⟨ho, n1.2⟩
  · have := N q (.tail _ (.tail _ (.tail _ hq)))
    exact ⟨hs.extBut _ _ (off q hq) this.1, this.2⟩
theorem Lw.set2 (S : Lw h₀ L h m v1 v2 v3 news) {v : Value} (hc : h'.IsCell (L + 1 + 1) (some v)) (hs : Heap.SameBut (L + 1 + 1) h h') : Lw h₀ L h' m v1 (some v) v3 news := by
  have off := S.off S.c2
  obtain ⟨F, ⟨o1, o2, o3, d1, d2, d3, N⟩, P⟩ := S
  obtain ⟨o, ho, hd⟩ := hc
  have n1 := N _ (.tail _ (.tail _ (.head _)))
  have n2 := N _ (.tail _ (.head _))
  have n3 := N _ (.head _)
  refine ⟨⟨F.ns.sameBut hs (fun e => n2.2.1 e.symm), fun b o e => hs.extBut b o (fun e' => by rw [e', n2.2.2] at e; cases e) (F.keep b o e), F.above⟩, ⟨o1, o, o3, d1, hd, d3, fun q hq => ?_⟩, P⟩
  rcases List.mem_cons.mp hq with rfl | hq
  · exact ⟨hs.extBut _ _ (adr L).2.2 n3.1, n3.2⟩
  rcases List.mem_cons.mp hq with rfl | hq
  · exact ⟨ho, n2.2⟩
  rcases List.mem_cons.mp hq with rfl | hq
  · exact ⟨hs.extBut _ _ (adr L).2.1.symm n1.1, n1.2⟩
  · have := N q (.tail _ (.tail _ (.tail _ hq)))
    exact ⟨hs.extBut _ _ (off q hq) this.1, this.2⟩
theorem Lw.set3 (S : Lw h₀ L h m v1 v2 v3 news) {v : Value} (hc : h'.IsCell (L + 1 + 1 + 1) (some v)) (hs : Heap.SameBut (L + 1 + 1 + 1) h h') : Lw h₀ L h' m v1 v2 (some v) news := by
  have off := S.off S.c3
  obtain ⟨F, ⟨o1, o2, o3, d1, d2, d3, N⟩, P⟩ := S
  obtain ⟨o, ho, hd⟩ := hc
  have n1 := N _ (.tail _ (.tail _ (.head _)))
  have n2 := N _ (.tail _ (.head _))
  have n3 := N _ (.head _)
  refine ⟨⟨F.ns.sameBut hs (fun e => n3.2.1 e.symm), fun b o e => hs.extBut b o (fun e' => by rw [e', n3.2.2] at e; cases e) (F.keep b o e), F.above⟩, ⟨o1, o2, o, d1, d2, hd, fun q hq => ?_⟩, P⟩
  rcases List.mem_cons.mp hq with rfl | hq
  · exact ⟨ho, n3.2⟩
  rcases List.mem_cons.mp hq with rfl | hq
  · exact ⟨hs.extBut _ _ (adr L).2.2.symm n2.1, n2.2⟩
  rcases List.mem_cons.mp hq with rfl | hq
  · exact ⟨hs.extBut _ _ (adr L).1.symm n1.1, n1.2⟩
  · have := N q (.tail _ (.tail _ (.tail _ hq)))
    exact ⟨hs.extBut _ _ (off q hq) this.1, this.2⟩
theorem Lw.addAll (S : Lw h₀ L h m v1 v2 v3 news) (k : Kp h h') {owns : List Own} (hm : ∀ ow ∈ owns, Made h h' ow) (ho : ∀ ow ∈ owns, ∀ p ∈ ow, ∀ v, p.2.data ≠ .cell v) : Lw h₀ L h' m v1 v2 v3 (owns.flatten ++ news) := by
  have F := S.fr
  obtain ⟨F', ⟨o1, o2, o3, d1, d2, d3, N⟩, P⟩ := S.after k
  refine ⟨F', ⟨o1, o2, o3, d1, d2, d3, nw N (.head _) (nw N (.tail _ (.head _)) (nw N (.tail _ (.tail _ (.head _))) fun p hp => ?_))⟩, fun p hp => ?_⟩
  · rcases List.mem_append.mp hp with h1 | h1
    · obtain ⟨ow, how, hpo⟩ := List.mem_flatten.mp h1
      obtain ⟨g1, g2⟩ := hm ow how p hpo
      refine ⟨g2, fun e => ?_, none_of_kp F.keep g1⟩
      obtain ⟨oL, _, _, hL, _⟩ := F.ns
      rw [e, hL] at g1; cases g1
    · exact N p (.tail _ (.tail _ (.tail _ h1)))
  · rcases List.mem_append.mp hp with h1 | h1
    · obtain ⟨ow, how, hpo⟩ := List.mem_flatten.mp h1
      exact ho ow how p hpo
    · exact P p h1
theorem Lw.sub {news' : List (Addr × Obj)} (S : Lw h₀ L h m v1 v2 v3 news) (hs : ∀ p ∈ news', p ∈ news) : Lw h₀ L h m v1 v2 v3 news' := by
  obtain ⟨F, ⟨o1, o2, o3, d1, d2, d3, N⟩, P⟩ := S
  exact ⟨F, ⟨o1, o2, o3, d1, d2, d3, nw N (.head _) (nw N (.tail _ (.head _)) (nw N (.tail _ (.tail _ (.head _))) fun p hp => N p (.tail _ (.tail _ (.tail _ (hs p hp))))))⟩, fun p hp => P p (hs p hp)⟩
end
end Mine
namespace Mine
open PySem PySem.W PySem.Spec PySem.Calls PyProof.Rows
section
variable {prog : Program} {w : World} {A : Around} {E : Value → Shared → Prop} {s : Shared} {Q : Value → Shared → Prop}
/-- a new list; the rest stands -/
abbrev NewL (s : Shared) (items : Array Value) (Q : Value → Shared → Prop) : Prop := ∀ D h', Kp s.heap h' → s.heap.get? D = none → h'.get? D = some { cls := .type "list", data := .seq items } → Q (.ref D) { s with heap := h' }
theorem slice_at {value slice : Expr} {l : Addr} {items : Array Value} {vl vu vk : Value} {lo hi st : Option Int} {ops : List Value}
    (hl : s.heap.IsList l items) (pl : IsPart vl lo) (pu : IsPart vu hi) (pk : IsPart vk st) (h0 : st ≠ some 0) (h : NewL s (slicePick items lo hi st) Q)
    (hs : subscripted slice false (.ref l) (.ref s.heap.objs.size) = operate ops (getItem (.ref l) (.ref s.heap.objs.size)))
    (ht : ∀ r, letTemporaryGo value (.ref l) r = pure ()) (hsz : items.size ≤ sizeLine) :
    wpAny (model prog w) A (subscriptTail value slice (.ref l) (.ref s.heap.objs.size)) Q E { s with heap := s.heap.push { cls := .type "slice", data := .fields #[vl, vu, vk] } } := by
  refine subscriptTail_ops (Heap.IsList.typeIs (s := { s with heap := s.heap.push { cls := .type "slice", data := .fields #[vl, vu, vk] } }) (hl.push _)) list_getitem_lookup
    (wpAny_getItem_list_slice (hl.push _) (Heap.IsSliceOf.new ..) pl pu pk h0 ?_ hsz) hs ht
  exact h _ _ ((Kp.push _ _).trans (Kp.push _ _)) (Heap.get?_none_of_le (by rw [Heap.size_push]; exact Nat.le_succ _)) (Heap.get?_push_size _ rfl)
theorem add_at {l b : Addr} {vs ws : List Value} (hl : s.heap.IsList l vs.toArray) (hb : s.heap.IsList b ws.toArray) (h : NewL s (vs ++ ws).toArray Q) (hsz : vs.length + ws.length ≤ sizeLine) :
    wpAny (model prog w) A (binaryOp .Add (.ref l) (.ref b)) Q E s := by
  obtain ⟨⟨c1, x1, y1, z1⟩, ho, hc, n, hd⟩ := id hl
  obtain ⟨⟨c2, x2, y2, z2⟩, ho2, hc2, n2, hd2⟩ := id hb
  simp only at hc hd hc2 hd2
  subst hc hd hc2 hd2
  refine concat_meets ⟨_, ho, rfl⟩ ⟨_, ho2, rfl⟩ noFill_list_add seq_list_add PySem.F.slot_list_add PySem.F.entry_list_add (PySem.F.args_list_add_2 _ _) (list_addW l b _ _ n n2 _ _ _ _ (by simpa using hsz)) ⟨ho, ho2, ?_⟩
  have := h _ _ (Kp.push _ { cls := .type "list", data := .seq (vs ++ ws).toArray }) (Heap.get?_none_of_le (Nat.le_refl _)) (Heap.get?_push_size _ rfl)
  rw [show (vs ++ ws).toArray = vs.toArray ++ ws.toArray by simp] at this
  exact this
theorem mul_at {l : Addr} {items : Array Value} {k : Nat} {x : Int} {u : Tok} (hl : s.heap.get? l = some { cls := .type "list", data := .seq items k })
    (hlo : -(2 ^ 63 : Int) ≤ x) (hhi : x < 2 ^ 63) (hsz : items.size * x.toNat ≤ 2 ^ 24)
    (h : NewL s (List.foldl (fun x1 x2 => x1 ++ x2) #[] (List.replicate (if items.isEmpty = true then 0 else x.toNat) items)) Q) :
    wpAny (model prog w) A (binaryOp .Mult (.ref l) (.int x u)) Q E s :=
  wpAny_binaryOp_repeat_ref (T := "list") (U := "int") (by decide) ⟨_, hl, rfl⟩ (fun s' => typeIs_int s' x u) noFill_list_mul F.fills_int_mul F.slot_int_rmul repeat_list F.slot_int_index.lookup
    (call_meets F.slot_int_rmul (typeIs_int s x u) F.entry_int_rmul (F.args_int_rmul_2 _ _) (int___rmul___int_list x u l items k)
      ⟨hl, rfl, ⟨_, hl, rfl⟩, call_meets F.slot_list_mul ⟨_, hl, rfl⟩ F.entry_list_mul (F.args_list_mul_2 _ _)
        (AutoListH.list___mul___list_int_3 l items k x u (by simp [Builtin.List.listFitsIndex]; omega) (by omega) (by simp [Builtin.List.listTooLong, sizeLine]; omega))
        ⟨hl, h _ _ (Kp.push _ _) (Heap.get?_none_of_le (Nat.le_refl _)) (Heap.get?_push_size _ rfl)⟩⟩)
theorem list_at {vs : List Value} (h : NewL s vs.toArray Q) (hsz : vs.length ≤ sizeLine) : wpAny (model prog w) A (newList vs) Q E s :=
  wpAny_newList (h _ _ (Kp.push _ _) (Heap.get?_none_of_le (Nat.le_refl _)) (Heap.get?_push_size _ rfl)) hsz
theorem isList_of {h : Heap} {D : Addr} {vs : Array Value} {c : Nat} (x : h.get? D = some { cls := .type "list", data := .seq vs c }) : h.IsList D vs := ⟨_, x, rfl, c, rfl⟩
end
/-- what stands in a row dealt out -/
theorem deal_facts : ∀ n : Fin 32, ∀ k : Fin 4, (sliceRange (sliceBounds (some (k.val : Int)) none (some 4) n.val).fst (sliceBounds (some (k.val : Int)) none (some 4) n.val).snd.fst (sliceBounds (some (k.val : Int)) none (some 4) n.val).snd.snd).length ≤ (n.val + 3) / 4 := by decide +kernel
theorem deal {fs : List Int} (hl : fs.length < 32) {k : Nat} (hk : k < 4) : (pickNums fs (some (k : Int)) none (some 4)).length ≤ (fs.length + 3) / 4 ∧ ∀ n ∈ pickNums fs (some (k : Int)) none (some 4), n ∈ fs := by
  refine ⟨?_, fun n hn => ?_⟩
  · unfold pickNums
    exact Nat.le_trans (List.length_filterMap_le _ _) (deal_facts ⟨fs.length, hl⟩ ⟨k, hk⟩)
  · unfold pickNums at hn
    obtain ⟨i, _, hi⟩ := List.mem_filterMap.mp hn
    exact List.mem_of_getElem? hi
theorem figs_facts (ns : List Int) : (figs ns).length < 32 ∧ 7 ≤ (figs ns).length ∧ ∀ n ∈ figs ns, 0 ≤ n ∧ n ≤ 15 := by
  refine ⟨by unfold figs; simp; omega, by unfold figs; simp, fun n hn => ?_⟩
  unfold figs at hn
  rcases List.mem_append.mp hn with h | h
  · obtain ⟨x, _, rfl⟩ := List.mem_map.mp h
    have h1 := Int.fmod_nonneg_of_pos x (show (0 : Int) < 16 by decide)
    have h2 := Int.fmod_lt_of_pos x (show (0 : Int) < 16 by decide)
    omega
  · have : ∀ n ∈ ([3, 0, 12, 1, 9, 15, 2] : List Int), 0 ≤ n ∧ n ≤ 15 := by decide
    exact this n h
theorem getD_get {α : Type} (l : List α) (d : α) {j : Nat} (h : j < l.length) : l.getD j d = l[j] := by simp [List.getD_eq_getElem?_getD, h]
/-- behind a comprehension that makes a list a turn -/
theorem Lw.comp {h₀ h h' : Heap} {L D : Addr} {m : Str → Option Value} {v1 v2 v3 : Option Value} {news : List (Addr × Obj)} {P : Nat → Value → Prop} {F : Nat → Value → Value → Own → Prop} {n c : Nat} {ys : List Value} {owns : List Own}
    (S : Lw h₀ L h m v1 v2 v3 news) (k : Kp h h') (hrow : Rows P F h h' n ys owns) (hF : ∀ i v y own, F i v y own → ∀ p ∈ own, ∃ xs c, p.2 = lst xs c) (hD : h.get? D = none) (hd : h'.get? D = some (lst ys c)) :
    Lw h₀ L h' m v1 v2 v3 ((D, lst ys c) :: (owns.flatten ++ news)) := by
  have S3 := S.addAll k hrow.made fun ow how p hp v => by
      obtain ⟨j, hj, e⟩ := List.getElem_of_mem how
      obtain ⟨_, _, g⟩ := hrow.rel j (by rw [← hrow.lenO]; exact hj)
      rw [getD_get _ _ hj, e] at g
      obtain ⟨xs, c, e⟩ := hF _ _ _ _ g p hp
      rw [e]
      exact fun e => nomatch e
  have hD9 : News h₀ L h' [(D, lst ys c)] := news_add S.fr News.nil k hD hd
  obtain ⟨F, ⟨o1, o2, o3, d1, d2, d3, N⟩, P⟩ := S3
  exact ⟨F, ⟨o1, o2, o3, d1, d2, d3, nw N (.head _) (nw N (.tail _ (.head _)) (nw N (.tail _ (.tail _ (.head _))) (nw hD9 (.head _) (ntl (ntl (ntl N))))))⟩, P.cons fun _ e => nomatch e⟩
theorem own_mem {P : Nat → Value → Prop} {F : Nat → Value → Value → Own → Prop} {g h : Heap} {n : Nat} {ys : List Value} {owns : List Own} (hrow : Rows P F g h n ys owns) {j : Nat} (hj : j < n) {p : Addr × Obj} (hp : p ∈ owns.getD j []) : p ∈ owns.flatten := by
  have hjo : j < owns.length := by rw [hrow.lenO]; exact hj
  refine List.mem_flatten.mpr ⟨_, ?_, hp⟩
  rw [getD_get _ _ hjo]
  exact List.getElem_mem hjo
theorem rep_list (v : Value) (n : Nat) : List.foldl (fun x1 x2 => x1 ++ x2) #[] (List.replicate n #[v]) = (List.replicate n v).toArray := by
  have : ∀ (n : Nat) (x : Array Value), List.foldl (fun x1 x2 => x1 ++ x2) x (List.replicate n #[v]) = x ++ (List.replicate n v).toArray := by
    intro n
    induction n with
    | zero => intro x; simp
    | succ n ih => intro x; rw [List.replicate_succ, List.foldl_cons, ih, List.replicate_succ]; apply Array.toList_inj.mp; simp only [Array.toList_append]; simp
  simpa using this n #[]
theorem rep_ints (t : Tok) : ∀ n : Nat, IntsAre (List.replicate n (Value.int 0 t)) (List.replicate n 0)
  | 0 => IntsAre.nil
  | n + 1 => IntsAre.cons 0 t (rep_ints t n)
/-- rows of at most W figures that stand in the heap -/
def RowsOf (W : Nat) (ys : List Value) (kept : List (Addr × Obj)) : Prop := ∀ j, j < ys.length → ∃ D c vs ns, ys.getD j .none = .ref D ∧ (D, lst vs c) ∈ kept ∧ IntsAre vs ns ∧ ns.length ≤ W ∧ ∀ n ∈ ns, 0 ≤ n ∧ n ≤ 15
/-- the rows rw -/
def RowsEq (rw : Nat → List Int) (ys : List Value) (kept : List (Addr × Obj)) : Prop := ∀ j, j < ys.length → ∃ D c vs, ys.getD j .none = .ref D ∧ (D, lst vs c) ∈ kept ∧ IntsAre vs (rw j)
theorem pv_ok (f : Nat → Int) (n : Nat) (hn : n ≤ 8) (hf : ∀ j, j < n → -64 ≤ f j ∧ f j ≤ 64) : (15 * pv f n).natAbs ≤ 2 ^ 48 ∧ (pv f n).natAbs < 16 ^ 12 := by
  obtain ⟨h1, h2⟩ := dot_bound f n 64 (by decide) hf n (Nat.le_refl _)
  rw [dot_pv] at h1 h2
  have h3 : (16 : Int) ^ n ≤ 16 ^ 8 := by exact_mod_cast Nat.pow_le_pow_right (by decide : 0 < 16) hn
  have h4 : (0 : Int) < 16 ^ (n - n) := Int.pow_pos (by decide)
  constructor <;> omega
theorem pre_bound (f : Nat → Int) (n : Nat) (hn : n ≤ 8) (hf : ∀ j, j < n → -64 ≤ f j ∧ f j ≤ 64) (i : Nat) (hi : i ≤ n) : (preSum (fun j => f j * 16 ^ (n - 1 - j)) i).natAbs ≤ 2 ^ 48 := by
  obtain ⟨h1, h2⟩ := dot_bound f n 64 (by decide) hf i hi
  have e : dot f (wt n) i = 15 * preSum (fun j => f j * 16 ^ (n - 1 - j)) i := by
    unfold dot
    rw [← preSum_mul]
    refine preSum_congr i fun j hj => ?_
    unfold wt
    rw [if_pos (by omega), Int.mul_left_comm]
  rw [e] at h1 h2
  have h3 : (16 : Int) ^ n ≤ 16 ^ 8 := by exact_mod_cast Nat.pow_le_pow_right (by decide : 0 < 16) hn
  have h4 : (0 : Int) < 16 ^ (n - i) := Int.pow_pos (by decide)
  omega
theorem term_bound (x : Int) (n j : Nat) (hn : n ≤ 8) (hx : -64 ≤ x ∧ x ≤ 64) : (x * 16 ^ (n - 1 - j)).natAbs ≤ 2 ^ 48 := by
  have h1 : (16 : Int) ^ (n - 1 - j) ≤ 16 ^ 8 := by exact_mod_cast Nat.pow_le_pow_right (by decide : 0 < 16) (show n - 1 - j ≤ 8 by omega)
  have h4 : (0 : Int) < 16 ^ (n - 1 - j) := Int.pow_pos (by decide)
  obtain ⟨g1, g2⟩ := hx
  have k1 := Int.mul_le_mul_of_nonneg_right g1 (Int.le_of_lt h4)
  have k2 := Int.mul_le_mul_of_nonneg_right g2 (Int.le_of_lt h4)
  omega
section
variable {prog : Program} {w : World} {A : Around} {E : Value → Shared → Prop} {s : Shared} {Q : Value → Shared → Prop}
theorem item_at {value slice : Expr} {l : Addr} {vs : List Value} {ns : List Int} {k : Nat} {t : Tok} (hl : s.heap.IsList l vs.toArray) (hI : IntsAre vs ns) (hk : k < ns.length) (hfit : k < 2 ^ 60) (h : ∀ u, Q (.int (ns.getD k 0) u) s)
    (hs : subscripted slice false (.ref l) (.int (k : Nat) t) = operate [.ref l, .int (k : Nat) t] (getItem (.ref l) (.int (k : Nat) t))) (ht : ∀ r, letTemporaryGo value (.ref l) r = pure ()) :
    wpAny (model prog w) A (subscriptTail value slice (.ref l) (.int (k : Nat) t)) Q E s := by
  obtain ⟨u, hu⟩ := ints_at hI k (by rw [hI.length]; exact hk)
  exact subscriptTail_builtin hl.typeIs list_getitem_lookup (wpAny_getItem_list hl (by omega) (by omega) (by rw [Int.toNat_natCast]; exact hu) (h u)) hs ht
theorem sum_at {l : Addr} {vs : List Value} {ns : List Int} (hh : A.in1.handled = none) (hl : s.heap.IsList l vs.toArray) (hI : IntsAre vs ns) (hsz : ns.length ≤ 1000) (hb : ∀ j, j < ns.length → (ns.getD j 0).natAbs ≤ 2 ^ 62 ∧ (preSum (fun i => ns.getD i 0) (j + 1)).natAbs ≤ 2 ^ 62)
    (h : ∀ h' tk u, Kp s.heap h' → Q (.int (preSum (fun i => ns.getD i 0) ns.length) u) { s with heap := h', toks := tk }) :
    wpAny (model prog w) A (call (.builtin "sum") [.ref l]) Q E s := by
  have hvl := hI.length
  refine call_sum_walk (iter_list hh hl (by omega) _ _ fun it h' tk S => ?_)
  obtain ⟨I, fp, wr, St, rfl, W, hwr, hsz', hst, hfp, hf, hx, k⟩ := S
  refine ⟨I, fp, wr, _, _, St, fun i => ns.getD i 0, rfl, W, hst, hfp, fun i v hv => ints_num hI i v (by simpa using hv), fun j hj => ?_, fun h2 tk2 t2 hk2 => ?_⟩
  · obtain ⟨h1, h2⟩ := hb j (by omega)
    unfold InLong
    dsimp only
    constructor <;> omega
  · rw [hvl]
    exact h _ _ _ fun b o e => hk2 b o (fun hb => by rw [hf b hb] at e; cases e) (k b o e)
end
/-- as Lw.comp, where the list went to a name at once -/
theorem Lw.compBut {h₀ h h' : Heap} {L D : Addr} {m m' : Str → Option Value} {v1 v2 v3 : Option Value} {news : List (Addr × Obj)} {P : Nat → Value → Prop} {F : Nat → Value → Value → Own → Prop} {n c : Nat} {ys : List Value} {owns : List Own}
    (S : Lw h₀ L h m v1 v2 v3 news) (k : KpBut L h h') (hn : h'.Ns L m') (hrow : Rows P F h h' n ys owns) (hF : ∀ i v y own, F i v y own → ∀ p ∈ own, ∃ xs c, p.2 = lst xs c) (hD : h.get? D = none) (hd : h'.get? D = some (lst ys c)) :
    Lw h₀ L h' m' v1 v2 v3 ((D, lst ys c) :: (owns.flatten ++ news)) := by
  have hne : ∀ b, h.get? b = none → b ≠ L ∧ h₀.get? b = none := fun b e => by
    refine ⟨fun e' => ?_, none_of_kp S.fr.keep e⟩
    obtain ⟨oL, _, _, hL, _⟩ := S.fr.ns
    rw [e', hL] at e
    cases e
  have hpl : ∀ p ∈ owns.flatten, (h'.get? p.1 = some p.2 ∧ p.1 ≠ L ∧ h₀.get? p.1 = none) ∧ ∀ v, p.2.data ≠ .cell v := fun p hp => by
    obtain ⟨ow, how, hpo⟩ := List.mem_flatten.mp hp
    obtain ⟨g1, g2⟩ := hrow.made ow how p hpo
    refine ⟨⟨g2, hne _ g1⟩, fun v => ?_⟩
    obtain ⟨j, hj, e⟩ := List.getElem_of_mem how
    obtain ⟨_, _, g⟩ := hrow.rel j (by rw [← hrow.lenO]; exact hj)
    rw [getD_get _ _ hj, e] at g
    obtain ⟨xs, c, e⟩ := hF _ _ _ _ g p hpo
    rw [e]
    exact fun e => nomatch e
  obtain ⟨F', ⟨o1, o2, o3, d1, d2, d3, N⟩, P'⟩ := S.but k hn
  have NA : News h₀ L h' ((D, lst ys c) :: (owns.flatten ++ news)) := fun p hp => by
    rcases List.mem_cons.mp hp with rfl | hp
    · exact ⟨hd, hne _ hD⟩
    rcases List.mem_append.mp hp with hp | hp
    · exact (hpl p hp).1
    · exact N p (.tail _ (.tail _ (.tail _ hp)))
  refine ⟨F', ⟨o1, o2, o3, d1, d2, d3, nw N (.head _) (nw N (.tail _ (.head _)) (nw N (.tail _ (.tail _ (.head _))) NA))⟩, fun p hp => ?_⟩
  rcases List.mem_cons.mp hp with rfl | hp
  · exact fun _ e => nomatch e
  rcases List.mem_append.mp hp with hp | hp
  · exact (hpl p hp).2
  · exact P' p hp
theorem pv_add (f g : Nat → Int) (n : Nat) : pv (fun j => f j + g j) n = pv f n + pv g n := by
  unfold pv
  rw [← preSum_add]
  exact preSum_congr n fun j _ => Int.add_mul ..
theorem pv_sub (f g : Nat → Int) (n : Nat) : pv (fun j => f j - g j) n = pv f n - pv g n := by
  unfold pv
  rw [← preSum_sub]
  exact preSum_congr n fun j _ => Int.sub_mul ..
/-- the k-th column -/
def col (rw' : Nat → List Int) (k : Nat) : List Int := [(rw' 0).getD k 0, (rw' 1).getD k 0, (rw' 2).getD k 0, (rw' 3).getD k 0]
/-- the columns stand -/
def ColsEq (rw' : Nat → List Int) (ys : List Value) (kept : List (Addr × Obj)) : Prop := ∀ j, j < ys.length → ∃ D c vs, ys.getD j .none = .ref D ∧ (D, lst vs c) ∈ kept ∧ IntsAre vs (col rw' j)
/-- the four numbers' names -/
abbrev abcd (rw' : Nat → List Int) (W : Nat) (t0 t1 t2 t3 : Tok) : List (Str × Value) := [(Str.ofString "a", .int (pv (fun j => (rw' 0).getD j 0) W) t0), (Str.ofString "b", .int (pv (fun j => (rw' 1).getD j 0) W) t1), (Str.ofString "c", .int (pv (fun j => (rw' 2).getD j 0) W) t2), (Str.ofString "d", .int (pv (fun j => (rw' 3).getD j 0) W) t3)]
def csum (rw' : Nat → List Int) (k : Nat) : Int := (rw' 0).getD k 0 + (rw' 1).getD k 0 + (rw' 2).getD k 0 + (rw' 3).getD k 0
def cless (rw' : Nat → List Int) (k : Nat) : Int := (rw' 0).getD k 0 + (rw' 1).getD k 0 + (rw' 2).getD k 0 - (rw' 3).getD k 0
theorem pv_csum (rw' : Nat → List Int) (n : Nat) : pv (csum rw') n = pv (fun j => (rw' 0).getD j 0) n + pv (fun j => (rw' 1).getD j 0) n + pv (fun j => (rw' 2).getD j 0) n + pv (fun j => (rw' 3).getD j 0) n := by
  rw [← pv_add, ← pv_add, ← pv_add]
  rfl
theorem pv_cless (rw' : Nat → List Int) (n : Nat) : pv (cless rw') n = pv (fun j => (rw' 0).getD j 0) n + pv (fun j => (rw' 1).getD j 0) n + pv (fun j => (rw' 2).getD j 0) n - pv (fun j => (rw' 3).getD j 0) n := by
  rw [← pv_add, ← pv_add, ← pv_sub]
  rfl
theorem dig_of {rw' : Nat → List Int} {W : Nat} (hrw : ∀ j, (rw' j).length = W ∧ ∀ n ∈ rw' j, 0 ≤ n ∧ n ≤ 15) (i k : Nat) : 0 ≤ (rw' i).getD k 0 ∧ (rw' i).getD k 0 ≤ 15 := by
  by_cases h : k < (rw' i).length
  · rw [getD_get _ _ h]
    exact (hrw i).2 _ (List.getElem_mem h)
  · rw [List.getD_eq_getElem?_getD, List.getElem?_eq_none (by omega)]
    decide
theorem pv_nonneg (f : Nat → Int) (n : Nat) (hf : ∀ j, 0 ≤ f j) : 0 ≤ pv f n := by
  unfold pv
  have : ∀ i, 0 ≤ preSum (fun j => f j * 16 ^ (n - 1 - j)) i := fun i => by
    induction i with
    | zero => exact Int.le_refl _
    | succ i ih =>
      rw [preSum]
      have hp : (0 : Int) < 16 ^ (n - 1 - i) := Int.pow_pos (by decide)
      have := Int.mul_nonneg (hf i) (Int.le_of_lt hp)
      omega
  exact this n
theorem four_facts (x y z u : Int) (hx : 0 ≤ x ∧ x ≤ 15) (hy : 0 ≤ y ∧ y ≤ 15) (hz : 0 ≤ z ∧ z ≤ 15) (hu : 0 ≤ u ∧ u ≤ 15) :
    (∀ i, i ≤ [x, y, z, u].length → ([x, y, z, u].take i).sum.natAbs ≤ 2 ^ 53) ∧ (∀ n ∈ [x, y, z, u], n.natAbs ≤ 2 ^ 53) ∧ [x, y, z, u].sum = x + y + z + u := by
  refine ⟨fun i hi => ?_, fun n hn => ?_, by simp only [List.sum_cons, List.sum_nil]; omega⟩
  · match i, hi with
    | 0, _ => simp
    | 1, _ => simp only [List.take_succ_cons, List.take_zero, List.sum_cons, List.sum_nil]; omega
    | 2, _ => simp only [List.take_succ_cons, List.take_zero, List.sum_cons, List.sum_nil]; omega
    | 3, _ => simp only [List.take_succ_cons, List.take_zero, List.sum_cons, List.sum_nil]; omega
    | 4, _ => simp only [List.take_succ_cons, List.take_zero, List.sum_cons, List.sum_nil]; omega
  · simp only [List.mem_cons, List.not_mem_nil, or_false] at hn
    omega
theorem dot_less (x y z u : Int) (hx : 0 ≤ x ∧ x ≤ 15) (hy : 0 ≤ y ∧ y ≤ 15) (hz : 0 ≤ z ∧ z ≤ 15) (hu : 0 ≤ u ∧ u ≤ 15) :
    DotOk (fun j => [x, y, z, u].getD j 0) (fun j => [(1 : Int), 1, 1, -1].getD j 0) 4 ∧ dot (fun j => [x, y, z, u].getD j 0) (fun j => [(1 : Int), 1, 1, -1].getD j 0) 4 = x + y + z - u := by
  have e1 : dot (fun j => [x, y, z, u].getD j 0) (fun j => [(1 : Int), 1, 1, -1].getD j 0) 1 = 0 + x * 1 := rfl
  have e2 : dot (fun j => [x, y, z, u].getD j 0) (fun j => [(1 : Int), 1, 1, -1].getD j 0) 2 = 0 + x * 1 + y * 1 := rfl
  have e3 : dot (fun j => [x, y, z, u].getD j 0) (fun j => [(1 : Int), 1, 1, -1].getD j 0) 3 = 0 + x * 1 + y * 1 + z * 1 := rfl
  have e4 : dot (fun j => [x, y, z, u].getD j 0) (fun j => [(1 : Int), 1, 1, -1].getD j 0) 4 = 0 + x * 1 + y * 1 + z * 1 + u * (-1) := rfl
  refine ⟨⟨fun i hi => ?_, fun i hi => ?_, fun i hi => ?_, fun i hi => ?_⟩, by rw [e4]; omega⟩
  · match i, hi with
    | 0, _ => show x.natAbs ≤ _; omega
    | 1, _ => show y.natAbs ≤ _; omega
    | 2, _ => show z.natAbs ≤ _; omega
    | 3, _ => show u.natAbs ≤ _; omega
  · match i, hi with
    | 0, _ => decide
    | 1, _ => decide
    | 2, _ => decide
    | 3, _ => decide
  · match i, hi with
    | 0, _ => show (x * 1).natAbs ≤ _; omega
    | 1, _ => show (y * 1).natAbs ≤ _; omega
    | 2, _ => show (z * 1).natAbs ≤ _; omega
    | 3, _ => show (u * (-1)).natAbs ≤ _; omega
  · match i, hi with
    | 0, _ => exact Nat.zero_le _
    | 1, _ => rw [e1]; omega
    | 2, _ => rw [e2]; omega
    | 3, _ => rw [e3]; omega
    | 4, _ => rw [e4]; omega
theorem sum_less {prog : Program} {w : World} {x y z u : Int} {vs ws : List Value} (hI : IntsAre vs [x, y, z, u]) (hJ : IntsAre ws [1, 1, 1, -1]) (hx : 0 ≤ x ∧ x ≤ 15) (hy : 0 ≤ y ∧ y ≤ 15) (hz : 0 ≤ z ∧ z ≤ 15) (hu : 0 ≤ u ∧ u ≤ 15) {d wt' : Addr} {hp : Heap}
    (hd : hp.IsList d vs.toArray) (hw : hp.IsList wt' ws.toArray) : SumP prog w d wt' hp (x + y + z - u) 0 := by
  intro A s Q E hh hk hQ
  obtain ⟨ok, e⟩ := dot_less x y z u hx hy hz hu
  have l1 : vs.toArray.size = 4 := by rw [List.size_toArray, hI.length]; rfl
  have l2 : ws.toArray.size = 4 := by rw [List.size_toArray, hJ.length]; rfl
  have i1 := ints_at hI
  have i2 := ints_at hJ
  rw [hI.length] at i1
  rw [hJ.length] at i2
  refine call_sumprod_ints (a := fun j => [x, y, z, u].getD j 0) (b := fun j => [(1 : Int), 1, 1, -1].getD j 0) hh (isList_kp hd hk) (isList_kp hw hk) (by rw [l1]; exact i1) (by rw [l2]; exact i2) (by rw [l1, l2]) (by rw [l1]; exact ok) fun h' tk u' k' => ?_
  rw [l1, e]
  refine hQ _ h' tk k' (.inl ⟨u', rfl, rfl, ?_⟩)
  omega
theorem ints_ex (P : Int → Prop) : ∀ (ys : List Value), (∀ j, j < ys.length → ∃ z u, ys.getD j .none = .int z u ∧ P z) → ∃ zs, IntsAre ys zs ∧ ∀ z ∈ zs, P z
  | [], _ => ⟨[], IntsAre.nil, fun _ h => nomatch h⟩
  | y :: r, h => by
    obtain ⟨z, u, e, hz⟩ := h 0 (by simp)
    have e' : y = .int z u := by simpa using e
    subst e'
    obtain ⟨zs, hI, hP⟩ := ints_ex P r fun j hj => by
      obtain ⟨z, u, e, hz⟩ := h (j + 1) (by simp; omega)
      exact ⟨z, u, by simpa using e, hz⟩
    refine ⟨z :: zs, IntsAre.cons z u hI, fun q hq => ?_⟩
    rcases List.mem_cons.mp hq with rfl | hq
    · exact hz
    · exact hP q hq
/-- a word's letters as figures -/
def lets (n : Nat) : List Int := (ap n).map fun b => (b.toNat : Int) - 65
theorem lets_facts (n : Nat) : pv (fun j => (lets n).getD j 0) (lets n).length = n ∧ ∀ z ∈ lets n, 0 ≤ z ∧ z ≤ 15 := by
  induction n using Nat.strongRecOn with
  | ind n ih =>
    by_cases h0 : n = 0
    · subst h0
      unfold lets
      rw [ap_zero]
      exact ⟨rfl, fun _ h => nomatch h⟩
    · have e : lets n = lets (n / 16) ++ [((n % 16 : Nat) : Int)] := by
        unfold lets
        rw [ap_pos h0, List.map_append, List.map_cons, List.map_nil, letter_nat (Nat.mod_lt _ (by decide))]
        congr 2
        omega
      obtain ⟨i1, i2⟩ := ih (n / 16) (by omega)
      rw [e, List.length_append, List.length_singleton, pv_snoc, i1]
      refine ⟨by omega, fun z hz => ?_⟩
      rcases List.mem_append.mp hz with h | h
      · exact i2 z h
      · rw [List.mem_singleton] at h
        omega
theorem news_addB {h₀ h h' : Heap} {L D : Addr} {o : Obj} {m : Str → Option Value} {news : List (Addr × Obj)} (F : Fr h₀ L h m) (N : News h₀ L h news) (k : KpBut L h h') (hD : h.get? D = none) (hd : h'.get? D = some o) : News h₀ L h' ((D, o) :: news) := fun p hp => by
  rcases List.mem_cons.mp hp with rfl | hp
  · refine ⟨hd, fun e => ?_, none_of_kp F.keep hD⟩
    obtain ⟨oL, _, _, hL, _⟩ := F.ns
    have e' : D = L := e
    rw [e', hL] at hD
    cases hD
  · exact news_but N k p hp
/-- the body of law's second loop -/
noncomputable def loopB (P : Params) : List Stmt := match stm P 10 with
  | .For _ _ b _ _ => b
  | _ => []
theorem lawA_eq (n : Str) (sc : Scope) (L x : Addr) (cd : Value) : callerA.deeper (envOfC n sc L x cd) = ktrTop (callerA.deeper (envOfC n sc L x cd)).depth (callerA.deeper (envOfC n sc L x cd)).units (callerA.deeper (envOfC n sc L x cd)).guards n sc L x cd (cellsFrom (L + 1) sc.names []) [] := rfl
theorem law_units (env : Env) : (callerA.deeper env).units + 60 < cLine := by
  have : (callerA.deeper env).units = (callerA.deeper default).units := rfl
  rw [this]
  decide +kernel
theorem but_last (xs : Array Value) : slicePick xs none (some (-1)) none = (xs.toList.take (xs.size - 1)).toArray := slicePick_butLast xs 1 (by decide)
theorem intAt_take {ws : List Value} {n : Nat} {f : Nat → Int} (h : IntAt ws.toArray n f) (k : Nat) (hk : k ≤ n) : IntAt (ws.take k).toArray k f := fun i hi => by
  obtain ⟨t, ht⟩ := h i (by omega)
  refine ⟨t, ?_⟩
  rw [List.getElem?_toArray] at ht ⊢
  rw [List.getElem?_take_of_lt hi]
  exact ht
theorem Lw.upTo {h₀ h h' : Heap} {L : Addr} {m : Str → Option Value} {v1 v2 v3 : Option Value} {news : List (Addr × Obj)} (S : Lw h₀ L h m v1 v2 v3 news) (k : KpBut L h h') (u : h.UpToSlots h') : Lw h₀ L h' m v1 v2 v3 news := S.but k (u.ns S.fr.ns)
/-- the weights whose last makes all add up to 0 -/
def zw (W : Nat) : List Int := (worths W).take W ++ [1 - 16 ^ W]
theorem zw_facts : ∀ n : Fin 9, (zw n.val).sum = 0 ∧ (∀ i : Fin 11, ((zw n.val).take i.val).sum.natAbs ≤ 2 ^ 53) ∧ (∀ x ∈ zw n.val, x.natAbs ≤ 2 ^ 53) ∧ (zw n.val).length = n.val + 1 := by decide +kernel
theorem zw_getD (W j : Nat) (hj : j < W) : (zw W).getD j 0 = wt W j := by
  have hl : (worths W).length = W + 1 := by simp [worths]
  rw [← worths_getD W j (by omega)]
  unfold zw
  rw [List.getD_eq_getElem?_getD, List.getD_eq_getElem?_getD, List.getElem?_append_left (by rw [List.length_take]; omega), List.getElem?_take_of_lt hj]
theorem dot_ok2 (f b : Nat → Int) (n : Nat) (hn : n ≤ 8) (hf : ∀ j, j < n → -64 ≤ f j ∧ f j ≤ 64) (h0 : f n = 0) (hb : ∀ j, j < n → b j = wt n j) (hbn : (b n).natAbs ≤ 2 ^ 53) : DotOk f b (n + 1) := by
  have ok := dot_ok f n (by omega) hf
  have hd : ∀ i, i ≤ n → dot f b i = dot f (wt n) i := fun i hi => preSum_congr i fun j hj => by rw [hb j (by omega)]
  refine ⟨fun i hi => ?_, fun i hi => ?_, fun i hi => ?_, fun i hi => ?_⟩
  · rcases Nat.lt_or_ge i n with h | h
    · exact ok.fa i h
    · have : i = n := by omega
      subst this; rw [h0]; decide
  · rcases Nat.lt_or_ge i n with h | h
    · rw [hb i h]; exact ok.fb i h
    · have : i = n := by omega
      subst this; exact hbn
  · rcases Nat.lt_or_ge i n with h | h
    · rw [hb i h]; exact ok.ab i h
    · have : i = n := by omega
      subst this; rw [h0, Int.zero_mul]; decide
  · rcases Nat.lt_or_ge i (n + 1) with h | h
    · rw [hd i (by omega)]; exact ok.sum i (by omega)
    · have : i = n + 1 := by omega
      subst this
      show (dot f b n + f n * b n).natAbs ≤ _
      rw [h0, Int.zero_mul, Int.add_zero, hd n (Nat.le_refl _)]
      exact ok.sum n (Nat.le_refl _)
theorem sum_zero {prog : Program} {w : World} {vs ws : List Value} {ns : List Int} {t : Tok} {W : Nat} (h : IntsAre vs ns) (hn : ns.length = W) (hW : W ≤ 8) (hf : ∀ j, j < W → -64 ≤ ns.getD j 0 ∧ ns.getD j 0 ≤ 64) (hJ : IntsAre ws (zw W)) {d wt' : Addr} {hp : Heap}
    (hd : hp.IsList d (vs ++ [Value.int 0 t]).toArray) (hw : hp.IsList wt' ws.toArray) : SumP prog w d wt' hp (dot (fun j => ns.getD j 0) (fun j => (zw W).getD j 0) (W + 1)) 0 := by
  intro A s Q E hh hk hQ
  obtain ⟨_, _, z3, z4⟩ := zw_facts ⟨W, by omega⟩
  dsimp only at z3 z4
  have h0 : ns.getD W 0 = 0 := by rw [← hn]; simp
  have ok := dot_ok2 (fun j => ns.getD j 0) (fun j => (zw W).getD j 0) W hW hf h0 (fun j hj => zw_getD W j hj) (by
    show ((zw W).getD W 0).natAbs ≤ _
    rw [getD_get _ _ (by omega)]
    exact z3 _ (List.getElem_mem _))
  have e1 : (vs ++ [Value.int 0 t]).toArray.size = W + 1 := by simp [h.length, hn]
  have e2 : ws.toArray.size = W + 1 := by rw [List.size_toArray, hJ.length, z4]
  have i1 := intAt_snoc t h
  rw [h.length, hn] at i1
  have i2 := ints_at hJ
  rw [hJ.length, z4] at i2
  refine call_sumprod_ints (a := fun j => ns.getD j 0) (b := fun j => (zw W).getD j 0) hh (isList_kp hd hk) (isList_kp hw hk) (by rw [e1]; exact i1) (by rw [e2]; exact i2) (by rw [e1, e2]) (by rw [e1]; exact ok) fun h' tk u k' => ?_
  rw [e1]
  exact hQ _ h' tk k' (.inl ⟨u, rfl, rfl, ok.sum _ (Nat.le_refl _)⟩)
end Mine
namespace Mine
open PySem PySem.W PySem.Spec PySem.Calls PyProof.Rows
theorem fill_ST0 : (fun (_ : OpenLaw) => hd.heap_39) PySem.Challenge.rw_nb0043_01 = hd.heap_39 := by
  k_fill
  rfl
local macro_rules | `(tactic| walk_at "go") => `(tactic| first | (k_unfold; (try dsimp only)) | ((with_reducible show wpAny _ _ _ _ _ _); first | walk1 | (dsimp only; walk1)) | ((with_reducible show Frag.In _ _ ∧ _); refine ⟨by k_in, ?_⟩; try dsimp only [List.nil_append, List.cons_append]) | (refine PySem.W.ite_neg Bool.false_ne_true ?_) | (refine PySem.W.ite_pos rfl ?_) | (refine PySem.W.ite_neg (by simp only [decide_eq_true_eq, beq_iff_eq]; omega) ?_) | (refine PySem.W.ite_pos (by simp only [decide_eq_true_eq, beq_iff_eq]; omega) ?_))
section
variable {prog : Program} {w : World} {E : Value → Shared → Prop} {s : Shared} {mg mb : Str → Option Value} {p : Program} {loose : List Str} {mean : ExcName → Option Value} {Q : Flow → Shared → Prop} {h₀ : Heap} {L a : Addr} {cd : Value} {m : Str → Option Value} {news : List (Addr × Obj)}
set_option maxHeartbeats 4000000 in
theorem st0 {sc : Addr} {vs : List Value} {ns : List Int} {v1 v2 v3 : Option Value} (S : Lw h₀ L s.heap m v1 v2 v3 news)
    (hm : m (Str.ofString "script") = some (.ref sc)) (hl : h₀.IsList sc vs.toArray) (hI : IntsAre vs ns) (hlen : ns.length ≤ 63)
    (hQ : ∀ D h' tk vs' c, Lw h₀ L h' m (some (.ref D)) v2 v3 ((D, lst vs' c) :: news) → IntsAre vs' (figs ns) → Q .next { s with heap := h', toks := tk }) :
    wpAny (model prog w) (lawA w.params L a cd) (exec (stm w.params 0) (lawEnv w.params L a cd)) Q E s := by
  obtain ⟨e1, e2⟩ := law_is (P := w.params) (by k_is)
  unfold stm lawA lawEnv
  rw [e1, e2]
  show wpAny _ _ (exec (Stmt.Assign _ _ _) _) _ _ _
  have P := S.plain
  obtain ⟨F, ⟨o1, o2, o3, d1, d2, d3, N⟩, _⟩ := S
  have F9 := fr_over [(Str.ofString "script", .ref sc)] F ⟨hm, trivial⟩
  have em := over_eq (l := [(Str.ofString "script", .ref sc)]) (m := m) ⟨hm, trivial⟩
  clear F hm
  repeat (fail_if_success (with_reducible show wpAny _ _ (eval (Expr.ListComp _ _ _ _) _) _ _ _)); walk_at "go"
  refine lcomp (fun i v y own => own = [] ∧ ∃ u, y = .int (((ns.take 24).getD i 0).fmod 16) u) rfl rfl (by decide) (by decide) rfl ?_
  repeat (fail_if_success (with_reducible show wpAny _ _ (subscriptTail _ _ _ _) _ _ _)); walk_at "go"
  have hlv := hI.length
  refine slice_list (s := ⟨_, _, _, _, _⟩) F9 N (isList_kp hl F9.keep) IsPart.none (IsPart.int _ _) ?_ (by with_unfolding_all rfl) (by intro _; with_unfolding_all rfl) (by rw [sizeLine_eq]; simp; omega)
  intro h6 F6 N6
  clear F9 N
  have hI9 := slice_ints_uptoW hI (show (0 : Int) ≤ 24 by decide)
  have hlst := N6.isList (List.Mem.head _)
  rw [show slicePick vs.toArray none (some 24) none = (slicePick vs.toArray none (some 24) none).toList.toArray from (Array.toArray_toList).symm] at hlst
  rw [show (24 : Int).toNat = 24 from rfl] at hI9
  have hlen9 := hI9.length
  have hdl : (ns.take 24).length ≤ 24 := by simp; omega
  refine ⟨_, _, iter_list rfl hlst (by omega), ?body, ?done⟩
  case body =>
    intro C i v h2 tk2 m2 E2 hC hi hP hn2 hm2 hk2
    obtain ⟨u9, hu9⟩ := ints_num hI9 i v (by simpa using hP)
    subst hu9
    refine wpAny_BinOp (n_local hn2 hm2 (wpAny_Constant_int (mod_int (by decide) ?_)))
    exact ⟨_, _, [], rfl, Kp.refl _, ⟨rfl, _, rfl⟩, Made.nil⟩
  case done =>
    intro D h3 tk3 ys owns hD hpl hrow hoff hk3
    obtain ⟨c3, hc3⟩ := hpl
    have F3 := F6.after hk3
    have N3 := news_add F6 N6 hk3 hD hc3
    have hI3 := rows_ints hrow (fun i => ((ns.take 24).getD i 0).fmod 16) fun i v y own _ _ hF => hF.2
    rw [hlen9, range_map _ (fun x => x.fmod 16)] at hI3
    clear F6 N6 hrow hoff hlst
    repeat (fail_if_success (with_reducible show wpAny _ _ (binaryOp _ _ _) _ _ _)); walk_at "go"
    rename Fr _ _ _ _ => F9
    rename News _ _ _ _ => N9
    have hl1 := N9.isList (List.Mem.tail _ (List.Mem.head _))
    have hl2 := N9.isList (List.Mem.head _)
    have hlen3 := hI3.length
    refine add_arrays F9 N9 hl1 hl2 ?_ (by rw [sizeLine_eq]; simp at hlen3 ⊢; omega)
    intro h9 F8 N8
    clear F9 N9
    rw [em] at F8
    have S8 : Lw h₀ L h9 m v1 v2 v3 (_ :: news) := ⟨F8, ⟨o1, o2, o3, d1, d2, d3, nw N8 (by k_mem) (nw N8 (by k_mem) (nw N8 (by k_mem) (nw N8 (List.Mem.head _) (ntl (ntl (ntl (ntl (ntl (ntl (ntl N8))))))))))⟩, P.cons (fun _ e => nomatch e)⟩
    clear F8 N8
    repeat (fail_if_success (with_reducible show wpAny _ _ (storeName _ _ _) _ _ _)); walk_at "go"
    refine wpAny_storeName_cell rfl rfl rfl S8.c1 fun h' hc hs => ?_
    have S9 := S8.set1 hc hs
    repeat walk_at "go"
    refine hQ _ _ _ _ _ S9 ?_
    exact ints_append hI3 (IntsAre.cons 3 _ (IntsAre.cons 0 _ (IntsAre.cons 12 _ (IntsAre.cons 1 _ (IntsAre.cons 9 _ (IntsAre.cons 15 _ (IntsAre.cons 2 _ IntsAre.nil)))))))
end
end Mine
namespace Mine
open PySem PySem.W PySem.Spec PySem.Calls PyProof.Rows
theorem fill_ST1 : (fun (_ : OpenLaw) => hd.heap_39) PySem.Challenge.rw_nb0043_01 = hd.heap_39 := by
  k_fill
  rfl
local macro_rules | `(tactic| walk_at "go") => `(tactic| first | (k_unfold; (try dsimp only)) | ((with_reducible show wpAny _ _ _ _ _ _); first | walk1 | (dsimp only; walk1)) | ((with_reducible show Frag.In _ _ ∧ _); refine ⟨by k_in, ?_⟩; try dsimp only [List.nil_append, List.cons_append]) | (refine PySem.W.ite_neg Bool.false_ne_true ?_) | (refine PySem.W.ite_pos rfl ?_) | (refine PySem.W.ite_neg (by simp only [decide_eq_true_eq, beq_iff_eq]; omega) ?_) | (refine PySem.W.ite_pos (by simp only [decide_eq_true_eq, beq_iff_eq]; omega) ?_))
section
variable {prog : Program} {w : World} {E : Value → Shared → Prop} {s : Shared} {mg mb : Str → Option Value} {p : Program} {loose : List Str} {mean : ExcName → Option Value} {Q : Flow → Shared → Prop} {h₀ : Heap} {L a : Addr} {cd : Value} {m : Str → Option Value} {news : List (Addr × Obj)}
set_option maxHeartbeats 4000000 in
theorem st1 {D : Addr} {vs : List Value} {fs : List Int} {v2 v3 : Option Value} {c : Nat} (S : Lw h₀ L s.heap m (some (.ref D)) v2 v3 ((D, lst vs c) :: news)) (X : (hd.heap_39 w.params).In h₀) (T : Top p loose mean mg mb h₀)
    (hI : IntsAre vs fs) (hlen : fs.length < 32)
    (hQ : ∀ h' tk u, Lw h₀ L h' m (some (.ref D)) (some (.int (((fs.length + 3) / 4 : Nat) : Int) u)) v3 ((D, lst vs c) :: news) → Q .next { s with heap := h', toks := tk }) :
    wpAny (model prog w) (lawA w.params L a cd) (exec (stm w.params 1) (lawEnv w.params L a cd)) Q E s := by
  obtain ⟨e1, e2⟩ := law_is (P := w.params) (by k_is)
  unfold stm lawA lawEnv
  rw [e1, e2]
  show wpAny _ _ (exec (Stmt.Assign _ _ _) _) _ _ _
  have F9 := S.fr
  have N9 := S.nws
  repeat (fail_if_success (with_reducible show wpAny _ _ (eval (Expr.Name (Str.ofString "figures") _) _) _ _ _)); walk_at "go"
  refine n_cell rfl S.c1 ?_
  repeat (fail_if_success (with_reducible show wpAny _ _ (call (Value.builtin "len") _) _ _ _)); walk_at "go"
  have hlv := hI.length
  refine PySem.Calls.call_len_list (S.nws.isList (List.Mem.head _)) (by simp; omega) ?_
  repeat (fail_if_success (with_reducible show wpAny _ _ (storeName _ _ _) _ _ _)); walk_at "go"
  refine wpAny_storeName_cell rfl rfl rfl S.c2 fun h' hc hs => ?_
  have S9 := S.set2 hc hs
  have e3 : (((vs.toArray.size : Nat) : Int) + 3).fdiv 4 = (((fs.length + 3) / 4 : Nat) : Int) := by
    rw [Int.fdiv_eq_ediv_of_nonneg _ (by decide), List.size_toArray, hlv]; omega
  rw [e3] at S9
  repeat walk_at "go"
  exact hQ _ _ _ S9
end
end Mine
namespace Mine
open PySem PySem.W PySem.Spec PySem.Calls PyProof.Rows
theorem fill_ST2 : (fun (_ : OpenLaw) => hd.heap_39) PySem.Challenge.rw_nb0043_01 = hd.heap_39 := by
  k_fill
  rfl
local macro_rules | `(tactic| walk_at "go") => `(tactic| first | (k_unfold; (try dsimp only)) | ((with_reducible show wpAny _ _ _ _ _ _); first | walk1 | (dsimp only; walk1)) | ((with_reducible show Frag.In _ _ ∧ _); refine ⟨by k_in, ?_⟩; try dsimp only [List.nil_append, List.cons_append]) | (refine PySem.W.ite_neg Bool.false_ne_true ?_) | (refine PySem.W.ite_pos rfl ?_) | (refine PySem.W.ite_neg (by simp only [decide_eq_true_eq, beq_iff_eq]; omega) ?_) | (refine PySem.W.ite_pos (by simp only [decide_eq_true_eq, beq_iff_eq]; omega) ?_))
section
variable {prog : Program} {w : World} {E : Value → Shared → Prop} {s : Shared} {mg mb : Str → Option Value} {p : Program} {loose : List Str} {mean : ExcName → Option Value} {Q : Flow → Shared → Prop} {h₀ : Heap} {L a : Addr} {cd : Value} {m : Str → Option Value} {news : List (Addr × Obj)}
/-- a row: a list of figures of at most W places -/
def RowAt (W : Nat) (y : Value) (own : Own) : Prop := ∃ D c vs ns, y = .ref D ∧ own = [(D, lst vs c)] ∧ IntsAre vs ns ∧ ns.length ≤ W ∧ ∀ n ∈ ns, 0 ≤ n ∧ n ≤ 15
set_option maxHeartbeats 4000000 in
theorem st2 {D : Addr} {vs : List Value} {fs : List Int} {v2 v3 : Option Value} {c W : Nat} (S : Lw h₀ L s.heap m (some (.ref D)) v2 v3 ((D, lst vs c) :: news)) (X : (hd.heap_39 w.params).In h₀) (T : Top p loose mean mg mb h₀)
    (hI : IntsAre vs fs) (hlen : fs.length < 32) (hfs : ∀ n ∈ fs, 0 ≤ n ∧ n ≤ 15) (hW : W = (fs.length + 3) / 4)
    (hQ : ∀ R h' tk ys kept c', ys.length = 4 → Lw h₀ L h' m (some (.ref D)) v2 (some (.ref R)) ((R, lst ys c') :: (kept ++ (D, lst vs c) :: news)) → RowsOf W ys kept → Q .next { s with heap := h', toks := tk }) :
    wpAny (model prog w) (lawA w.params L a cd) (exec (stm w.params 2) (lawEnv w.params L a cd)) Q E s := by
  obtain ⟨e1, e2⟩ := law_is (P := w.params) (by k_is)
  unfold stm lawA lawEnv
  rw [e1, e2]
  show wpAny _ _ (exec (Stmt.Assign _ _ _) _) _ _ _
  have F9 := S.fr
  have N9 := S.nws
  repeat (fail_if_success (with_reducible show wpAny _ _ (eval (Expr.ListComp _ _ _ _) _) _ _ _)); walk_at "go"
  refine lcomp (fun _ _ y own => RowAt W y own) rfl rfl (by decide) (by decide) rfl ?_
  clear e1 e2
  repeat walk_at "go"
  rename IsRange _ _ _ _ _ _ _ _ => hr
  rename (∀ (b : Addr) (o : Obj), _) => hk0
  have S1 := S.after hk0
  have hrs : Builtin.Range.small 0 4 1 = true ∧ Builtin.Range.rangeSize 0 4 1 = ((4 : Nat) : Int) := by decide +kernel
  have hvl := hI.length
  refine ⟨4, _, iter_range rfl hr hrs.1 hrs.2 (by decide), ?body, ?done⟩
  case body =>
    intro C i v h2 tk2 m2 E2 hC hi hP hn2 hm2 hk2
    obtain ⟨u, rfl⟩ := hP
    rw [show (0 + (i : Int) * 1) = ((i : Nat) : Int) by omega] at hm2
    have S2 := S1.after hk2
    refine Subscript_ (n_cell rfl S2.c1 (wpAny_Slice ?_))
    rw [evalPart_some]
    refine n_local hn2 hm2 ?_
    rw [evalPart_none]
    refine wpAny_pure ?_
    rw [evalPart_some]
    refine wpAny_Constant_int ?_
    refine slice_at (s := ⟨_, _, _, _, _⟩) (S2.nws.isList (List.Mem.head _)) (IsPart.int _ _) IsPart.none (IsPart.int _ _) (by decide) ?_ (by with_unfolding_all rfl) (by intro _; with_unfolding_all rfl) (by rw [sizeLine_eq]; simp; omega)
    intro D3 h3 k3 hD3 hd3
    obtain ⟨dl1, dl2⟩ := deal hlen hi
    exact ⟨_, _, [(D3, _)], rfl, k3, ⟨D3, _, (slicePick vs.toArray (some (i : Int)) none (some 4)).toList, _, rfl, rfl, hI.pick _ _ _, hW ▸ dl1, fun n hn => hfs n (dl2 n hn)⟩, fun q hq => by
      rw [List.mem_singleton] at hq
      subst hq
      exact ⟨hD3, hd3⟩⟩
  case done =>
    intro D3 h3 tk3 ys owns hD3 hpl hrow hoff hk3
    obtain ⟨c3, hc3⟩ := hpl
    have S3 := (S1.addAll hk3 hrow.made fun ow how p hp v => by
      obtain ⟨j, hj, e⟩ := List.getElem_of_mem how
      obtain ⟨_, _, D4, c4, vs4, ns4, _, e4, _⟩ := hrow.rel j (by rw [← hrow.lenO]; exact hj)
      rw [show owns.getD j [] = owns[j] by simp [List.getD_eq_getElem?_getD, hj], e] at e4
      rw [e4, List.mem_singleton] at hp
      subst hp
      exact fun e => nomatch e)
    have hD9 : News h₀ L h3 [(D3, lst ys c3)] := news_add S1.fr News.nil hk3 hD3 hc3
    have S4 : Lw h₀ L h3 m (some (.ref D)) v2 v3 ((D3, lst ys c3) :: (owns.flatten ++ (D, lst vs c) :: news)) := by
      obtain ⟨F, ⟨o1, o2, o3, d1, d2, d3, N⟩, P⟩ := S3
      exact ⟨F, ⟨o1, o2, o3, d1, d2, d3, nw N (.head _) (nw N (.tail _ (.head _)) (nw N (.tail _ (.tail _ (.head _))) (nw hD9 (.head _) (ntl (ntl (ntl N))))))⟩, P.cons fun _ e => nomatch e⟩
    clear S3 S1 S hD9
    repeat (fail_if_success (with_reducible show wpAny _ _ (storeName _ _ _) _ _ _)); walk_at "go"
    refine wpAny_storeName_cell rfl rfl rfl S4.c3 fun h' hc hs => ?_
    have S9 := S4.set3 hc hs
    repeat walk_at "go"
    refine hQ _ _ _ _ _ _ hrow.len S9 fun j hj => ?_
    rw [hrow.len] at hj
    obtain ⟨_, _, D5, c5, vs5, ns5, e5, o5, r5⟩ := hrow.rel j hj
    refine ⟨D5, c5, vs5, ns5, e5, List.mem_flatten.mpr ⟨owns.getD j [], ?_, by rw [o5]; exact List.mem_singleton.mpr rfl⟩, r5⟩
    have hjo : j < owns.length := by rw [hrow.lenO]; exact hj
    rw [show owns.getD j [] = owns[j] by simp [List.getD_eq_getElem?_getD, hjo]]
    exact List.getElem_mem hjo
end
end Mine
namespace Mine
open PySem PySem.W PySem.Spec PySem.Calls PyProof.Rows
theorem fill_ST3 : (fun (_ : OpenLaw) => hd.heap_39) PySem.Challenge.rw_nb0043_01 = hd.heap_39 := by
  k_fill
  rfl
local macro_rules | `(tactic| walk_at "go") => `(tactic| first | (k_unfold; (try dsimp only)) | ((with_reducible show wpAny _ _ _ _ _ _); first | walk1 | (dsimp only; walk1)) | ((with_reducible show Frag.In _ _ ∧ _); refine ⟨by k_in, ?_⟩; try dsimp only [List.nil_append, List.cons_append]) | (refine PySem.W.ite_neg Bool.false_ne_true ?_) | (refine PySem.W.ite_pos rfl ?_) | (refine PySem.W.ite_neg (by simp only [decide_eq_true_eq, beq_iff_eq]; omega) ?_) | (refine PySem.W.ite_pos (by simp only [decide_eq_true_eq, beq_iff_eq]; omega) ?_))
section
variable {prog : Program} {w : World} {E : Value → Shared → Prop} {s : Shared} {mg mb : Str → Option Value} {p : Program} {loose : List Str} {mean : ExcName → Option Value} {Q : Flow → Shared → Prop} {h₀ : Heap} {L a : Addr} {cd : Value} {m : Str → Option Value} {news : List (Addr × Obj)}
set_option maxHeartbeats 4000000 in
theorem st3 {R : Addr} {ys : List Value} {kept : List (Addr × Obj)} {v1 : Option Value} {c W : Nat} {t : Tok} (S : Lw h₀ L s.heap m v1 (some (.int (W : Nat) t)) (some (.ref R)) ((R, lst ys c) :: (kept ++ news))) (X : (hd.heap_39 w.params).In h₀) (T : Top p loose mean mg mb h₀)
    (hys : ys.length = 4) (hr : RowsOf W ys kept) (hW : W ≤ 8)
    (hQ : ∀ R h' tk ys kept c' rw, ys.length = 4 → Lw h₀ L h' m v1 (some (.int (W : Nat) t)) (some (.ref R)) ((R, lst ys c') :: (kept ++ news)) → RowsEq rw ys kept → (∀ j, (rw j).length = W ∧ ∀ n ∈ rw j, 0 ≤ n ∧ n ≤ 15) → Q .next { s with heap := h', toks := tk }) :
    wpAny (model prog w) (lawA w.params L a cd) (exec (stm w.params 3) (lawEnv w.params L a cd)) Q E s := by
  obtain ⟨e1, e2⟩ := law_is (P := w.params) (by k_is)
  unfold stm lawA lawEnv
  rw [e1, e2]
  show wpAny _ _ (exec (Stmt.Assign _ _ _) _) _ _ _
  have F9 := S.fr
  have N9 := S.nws
  repeat (fail_if_success (with_reducible show wpAny _ _ (eval (Expr.ListComp _ _ _ _) _) _ _ _)); walk_at "go"
  refine lcomp (fun _ _ y own => ∃ D c vs ns, y = .ref D ∧ own = [(D, lst vs c)] ∧ IntsAre vs ns ∧ ns.length = W ∧ ∀ n ∈ ns, 0 ≤ n ∧ n ≤ 15) rfl rfl (by decide) (by decide) rfl ?_
  clear e1 e2
  refine n_cell rfl S.c3 ?_
  refine ⟨_, _, iter_list rfl (S.nws.isList (List.Mem.head _)) (by omega), ?body, ?done⟩
  case body =>
    intro C i v h2 tk2 m2 E2 hC hi hP hn2 hm2 hk2
    have S2 := S.after hk2
    obtain ⟨D1, c1, vs1, ns1, y1, mem1, hI1, len1, dig1⟩ := hr i (by omega)
    have hv1 := hI1.length
    rw [getD_get _ _ hi] at y1
    have hPv : v = .ref D1 := by
      have : ys[i]? = some v := hP
      rw [List.getElem?_eq_getElem hi, y1] at this
      exact (Option.some.inj this).symm
    subst hPv
    have mem2 : (D1, lst vs1 c1) ∈ (R, lst ys c) :: (kept ++ news) := List.mem_cons_of_mem _ (List.mem_append_left _ mem1)
    refine wpAny_BinOp (wpAny_BinOp ?_)
    repeat (fail_if_success (with_reducible show wpAny _ _ (newList _) _ _ _)); walk_at "go"
    refine list_at ?_ (by rw [sizeLine_eq]; simp)
    intro D3 h3 k3 hD3 hd3
    refine wpAny_BinOp (n_cell rfl (S2.after k3).c2 ?_)
    repeat (fail_if_success (with_reducible show wpAny _ _ (eval (Expr.Name _ _) _) _ _ _)); walk_at "go"
    refine' n_builtin (X.keeps S2.fr.keep) (topRead_of (T.keeps S2.fr.keep)) k3 ?k3 ?k4 (by decide) ?_
    (case k3 => k_is)
    (case k4 => boot_by_name)
    repeat (fail_if_success (with_reducible show wpAny _ _ (eval (Expr.Name _ _) _) _ _ _)); walk_at "go"
    refine n_local (hn2.keeps k3) hm2 ?_
    repeat (fail_if_success (with_reducible show wpAny _ _ (call (Value.builtin "len") _) _ _ _)); walk_at "go"
    refine PySem.Calls.call_len_list ((S2.after k3).nws.isList mem2) (by simp; omega) ?_
    repeat (fail_if_success (with_reducible show wpAny _ _ (binaryOp _ _ _) _ _ _)); walk_at "go"
    refine sub_int ?_
    have ex : ((W : Nat) : Int) - ((vs1.toArray.size : Nat) : Int) = ((W - ns1.length : Nat) : Int) := by rw [List.size_toArray, hv1]; omega
    rw [ex]
    refine mul_at hd3 (by omega) (by omega) (by rw [Int.toNat_natCast]; simp; omega) ?_
    rw [show (if (#[Value.int 0 tk2] : Array Value).isEmpty = true then 0 else (((W - ns1.length : Nat) : Int)).toNat) = W - ns1.length by rw [Int.toNat_natCast]; rfl, rep_list]
    intro D4 h4 k4 hD4 hd4
    refine n_local ((hn2.keeps k3).keeps k4) hm2 ?_
    refine add_at (isList_of hd4) (((S2.after k3).after k4).nws.isList mem2) ?_ (by rw [sizeLine_eq]; simp; omega)
    intro D5 h5 k5 hD5 hd5
    refine ⟨_, _, [(D5, lst (List.replicate (W - ns1.length) (Value.int 0 tk2) ++ vs1) 0)], rfl, (k3.trans k4).trans k5, ⟨D5, 0, List.replicate (W - ns1.length) (Value.int 0 tk2) ++ vs1, List.replicate (W - ns1.length) 0 ++ ns1, rfl, rfl, ints_append (rep_ints _ _) hI1, by simp; omega, fun n hn => ?_⟩, fun q hq => ?_⟩
    · rcases List.mem_append.mp hn with h | h
      · have := List.eq_of_mem_replicate h
        omega
      · exact dig1 n h
    · rw [List.mem_singleton] at hq
      subst hq
      exact ⟨none_of_kp (k3.trans k4) hD5, hd5⟩
  case done =>
    intro D3 h3 tk3 zs owns hD3 hpl hrow hoff hk3
    obtain ⟨c3, hc3⟩ := hpl
    have S4 := S.comp hk3 hrow (fun i v y own hF p hp => by
      obtain ⟨D, c, vs, ns, _, e, _⟩ := hF
      rw [e, List.mem_singleton] at hp
      subst hp
      exact ⟨_, _, rfl⟩) hD3 hc3
    have hex : ∀ j : Nat, ∃ ns : List Int, (ns.length = W ∧ ∀ n ∈ ns, 0 ≤ n ∧ n ≤ 15) ∧ (j < zs.length → ∃ D c vs, zs.getD j .none = .ref D ∧ (D, lst vs c) ∈ owns.flatten ∧ IntsAre vs ns) := fun j => by
      by_cases hj : j < zs.length
      · have hj' : j < ys.length := by rw [hrow.len] at hj; exact hj
        obtain ⟨_, _, D5, c5, vs5, ns5, e5, o5, i5, l5, g5⟩ := hrow.rel j hj'
        exact ⟨ns5, ⟨l5, g5⟩, fun _ => ⟨D5, c5, vs5, e5, own_mem hrow hj' (by rw [o5]; exact List.mem_singleton.mpr rfl), i5⟩⟩
      · exact ⟨List.replicate W 0, ⟨by simp, fun n hn => by have := List.eq_of_mem_replicate hn; omega⟩, fun h => absurd h hj⟩
    obtain ⟨rw', hrw⟩ := Classical.skolem.mp hex
    clear S hex
    repeat (fail_if_success (with_reducible show wpAny _ _ (storeName _ _ _) _ _ _)); walk_at "go"
    refine wpAny_storeName_cell rfl rfl rfl S4.c3 fun h' hc hs => ?_
    have S9 := S4.set3 hc hs
    repeat walk_at "go"
    refine hQ _ _ _ _ _ c3 rw' (by rw [hrow.len, hys]) (S9.sub fun p hp => ?_) (fun j hj => (hrw j).2 hj) fun j => (hrw j).1
    rcases List.mem_cons.mp hp with rfl | hp
    · exact List.mem_cons_self
    · rcases List.mem_append.mp hp with hp | hp
      · exact List.mem_cons_of_mem _ (List.mem_append_left _ hp)
      · exact List.mem_cons_of_mem _ (List.mem_append_right _ (List.mem_cons_of_mem _ (List.mem_append_right _ hp)))
end
end Mine
namespace Mine
open PySem PySem.W PySem.Spec PySem.Calls PyProof.Rows
theorem fill_ST4 : (fun (_ : OpenLaw) => hd.heap_39) PySem.Challenge.rw_nb0043_01 = hd.heap_39 := by
  k_fill
  rfl
local macro_rules | `(tactic| walk_at "go") => `(tactic| first | (k_unfold; (try dsimp only)) | ((with_reducible show wpAny _ _ _ _ _ _); first | walk1 | (dsimp only; walk1)) | ((with_reducible show Frag.In _ _ ∧ _); refine ⟨by k_in, ?_⟩; try dsimp only [List.nil_append, List.cons_append]) | (refine PySem.W.ite_neg Bool.false_ne_true ?_) | (refine PySem.W.ite_pos rfl ?_) | (refine PySem.W.ite_neg (by simp only [decide_eq_true_eq, beq_iff_eq]; omega) ?_) | (refine PySem.W.ite_pos (by simp only [decide_eq_true_eq, beq_iff_eq]; omega) ?_))
section
variable {prog : Program} {w : World} {E : Value → Shared → Prop} {s : Shared} {mg mb : Str → Option Value} {p : Program} {loose : List Str} {mean : ExcName → Option Value} {Q : Flow → Shared → Prop} {h₀ : Heap} {L a : Addr} {cd : Value} {m : Str → Option Value} {news : List (Addr × Obj)}
set_option maxHeartbeats 4000000 in
theorem st4 {R : Addr} {ys : List Value} {kept : List (Addr × Obj)} {v1 v2 : Option Value} {c W : Nat} {rw' : Nat → List Int} (S : Lw h₀ L s.heap m v1 v2 (some (.ref R)) ((R, lst ys c) :: (kept ++ news))) (X : (hd.heap_39 w.params).In h₀) (T : Top p loose mean mg mb h₀)
    (hys : ys.length = 4) (hr : RowsEq rw' ys kept) (hW : W ≤ 8) (hrw : ∀ j, (rw' j).length = W ∧ ∀ n ∈ rw' j, 0 ≤ n ∧ n ≤ 15)
    (hQ : ∀ h' tk m', (∀ x, x ≠ Str.ofString "row" → m' x = m x) → Lw h₀ L h' m' v1 v2 (some (.ref R)) ((R, lst ys c) :: (kept ++ news)) → Q .next { s with heap := h', toks := tk }) :
    wpAny (model prog w) (lawA w.params L a cd) (exec (stm w.params 4) (lawEnv w.params L a cd)) Q E s := by
  obtain ⟨e1, e2⟩ := law_is (P := w.params) (by k_is)
  unfold stm lawA lawEnv
  rw [e1, e2]
  show wpAny _ _ (exec (Stmt.For _ _ _ _ _) _) _ _ _
  clear e1 e2
  refine for_rule (h₀ := h₀) rfl rfl ?_
  refine n_cell rfl S.c3 ?_
  have P := S.plain
  have hl := S.nws.isList (List.Mem.head _)
  obtain ⟨F, ⟨o1, o2, o3, d1, d2, d3, N⟩, _⟩ := S
  refine ⟨_, _, m, _, fun i m' => ∀ x, x ≠ Str.ofString "row" → m' x = m x, iter_list rfl hl (by omega), F, N, fun _ _ => rfl, ?turn, ?fin⟩
  case turn =>
    intro kept' i v h2 tk2 m2 E2 hi hP hJ F2 N2
    obtain ⟨D1, c1, vs1, y1, mem1, hI1⟩ := hr i (by omega)
    obtain ⟨len1, dig1⟩ := hrw i
    have hv1 := hI1.length
    rw [getD_get _ _ hi] at y1
    have hPv : v = .ref D1 := by
      have : ys[i]? = some v := hP
      rw [List.getElem?_eq_getElem hi, y1] at this
      exact (Option.some.inj this).symm
    subst hPv
    have hD1 : h2.IsList D1 vs1.toArray := N2.isList (List.mem_append_left _ (.tail _ (.tail _ (.tail _ (List.mem_cons_of_mem _ (List.mem_append_left _ mem1))))))
    have F2' : Fr h₀ L h2 (over [(Str.ofString "row", .ref D1)] _) := fr_over _ F2 ⟨rfl, trivial⟩
    have N2' : News h₀ L h2 _ := N2
    clear F N F2 N2
    repeat (fail_if_success (with_reducible show wpAny _ _ (call (Value.ref 96) _) _ _ _)); walk_at "go"
    have hdig : ∀ j, j < vs1.length → -64 ≤ (rw' i).getD j 0 ∧ (rw' i).getD j 0 ≤ 64 := fun j hj => by
      have hj' : j < (rw' i).length := by omega
      have := dig1 _ (List.getElem_mem hj')
      rw [getD_get _ _ hj']
      omega
    obtain ⟨b1, b2⟩ := pv_ok (fun j => (rw' i).getD j 0) vs1.length (by omega) hdig
    rename Fr _ _ _ _ => F9
    rename News _ _ _ _ => N9
    refine' written_call (V := pv (fun j => (rw' i).getD j 0) vs1.length) ?x1 ?x2 ?x3 ?x4 ?x5 ?x6 ?x7 ?x8 ?x9 ?y1 ?y2 ?y3 b2 ?_
    (case x1 => exact X.keeps F9.keep)
    (case x2 => exact topRead_of (T.keeps F9.keep))
    (case x3 => exact rfl)
    (case x4 => exact Nat.lt_of_le_of_lt (Nat.add_le_add_left (by decide : 2 ≤ 5) _) (law_room _))
    (case x5 => exact hD1)
    (case x6 => omega)
    (case x7 => exact sum_ints hI1 (by omega) hdig)
    (case x8 => omega)
    (case x9 => omega)
    (case y1 => decide)
    (case y2 => omega)
    (case y3 => omega)
    intro h3 tk3 u3 k3
    replace F9 := F9.after k3
    replace N9 := news_after N9 k3
    repeat (fail_if_success (with_reducible show wpAny _ _ (call (Value.ref 101) _) _ _ _)); walk_at "go"
    rename Fr _ _ _ _ => F9
    rename News _ _ _ _ => N9
    refine' bare_call ?x1 ?x2 ?x3 ?x4 ?x5 hI1 ?x6 dig1 ?_
    (case x1 => exact X.keeps F9.keep)
    (case x2 => exact topRead_of (T.keeps F9.keep))
    (case x3 => exact rfl)
    (case x4 => exact Nat.lt_of_le_of_lt (Nat.le_add_right _ 5) (law_room _))
    (case x5 => exact isList_kp hD1 k3)
    (case x6 => omega)
    intro h4 tk4 u4 k4
    replace F9 := F9.after k4
    replace N9 := news_after N9 k4
    obtain ⟨p1, p2⟩ := ap_bare (rw' i) dig1
    rw [← hv1] at p1 p2
    rw [show (pv (fun j => (rw' i).getD j 0) vs1.length).natAbs = (pv (fun j => (rw' i).getD j 0) vs1.length).toNat by omega, p2]
    repeat (fail_if_success (with_reducible show wpAny _ _ (compareOp _ _ _) _ _ _)); walk_at "go"
    refine ne_bytes ?_
    rw [show (((bare (rw' i)).toArray.toList) != ((bare (rw' i)).toArray.toList)) = false by simp]
    repeat walk_at "go"
    exact ⟨rfl, _, _, _, rfl, F9, N9, fun x hx => by rw [over_eq (by exact ⟨rfl, trivial⟩)]; show (if x = _ then _ else m2 x) = m x; rw [if_neg hx]; exact hJ x hx⟩
  case fin =>
    intro h' tk m' hJ F' N'
    exact hQ _ _ _ hJ ⟨F', ⟨o1, o2, o3, d1, d2, d3, N'⟩, P⟩
end
end Mine
namespace Mine
open PySem PySem.W PySem.Spec PySem.Calls PyProof.Rows
theorem fill_ST5 : (fun (_ : OpenLaw) => hd.heap_39) PySem.Challenge.rw_nb0043_01 = hd.heap_39 := by
  k_fill
  rfl
local macro_rules | `(tactic| walk_at "go") => `(tactic| first | (k_unfold; (try dsimp only)) | ((with_reducible show wpAny _ _ _ _ _ _); first | walk1 | (dsimp only; walk1)) | ((with_reducible show Frag.In _ _ ∧ _); refine ⟨by k_in, ?_⟩; try dsimp only [List.nil_append, List.cons_append]) | (refine PySem.W.ite_neg Bool.false_ne_true ?_) | (refine PySem.W.ite_pos rfl ?_) | (refine PySem.W.ite_neg (by simp only [decide_eq_true_eq, beq_iff_eq]; omega) ?_) | (refine PySem.W.ite_pos (by simp only [decide_eq_true_eq, beq_iff_eq]; omega) ?_))
section
variable {prog : Program} {w : World} {E : Value → Shared → Prop} {s : Shared} {mg mb : Str → Option Value} {p : Program} {loose : List Str} {mean : ExcName → Option Value} {Q : Flow → Shared → Prop} {h₀ : Heap} {L a : Addr} {cd : Value} {m : Str → Option Value} {news : List (Addr × Obj)}
set_option maxHeartbeats 4000000 in
theorem st5 {R : Addr} {ys : List Value} {kept : List (Addr × Obj)} {v1 : Option Value} {c W : Nat} {t : Tok} {rw' : Nat → List Int} (S : Lw h₀ L s.heap m v1 (some (.int (W : Nat) t)) (some (.ref R)) ((R, lst ys c) :: (kept ++ news))) (X : (hd.heap_39 w.params).In h₀) (T : Top p loose mean mg mb h₀)
    (hys : ys.length = 4) (hr : RowsEq rw' ys kept) (hW : W ≤ 8) (hrw : ∀ j, (rw' j).length = W ∧ ∀ n ∈ rw' j, 0 ≤ n ∧ n ≤ 15)
    (hQ : ∀ h' tk t0 t1 t2 t3 m', Told m' (abcd rw' W t0 t1 t2 t3) → m' (Str.ofString "script") = m (Str.ofString "script") → Lw h₀ L h' m' v1 (some (.int (W : Nat) t)) (some (.ref R)) ((R, lst ys c) :: (kept ++ news)) → Q .next { s with heap := h', toks := tk }) :
    wpAny (model prog w) (lawA w.params L a cd) (exec (stm w.params 5) (lawEnv w.params L a cd)) Q E s := by
  obtain ⟨e1, e2⟩ := law_is (P := w.params) (by k_is)
  unfold stm lawA lawEnv
  rw [e1, e2]
  show wpAny _ _ (exec (Stmt.Assign _ _ _) _) _ _ _
  clear e1 e2
  have F9 := S.fr
  have N9 := S.nws
  repeat (fail_if_success (with_reducible show wpAny _ _ (eval (Expr.ListComp _ _ _ _) _) _ _ _)); walk_at "go"
  refine lcompC (fun i _ y own => own = [] ∧ ∃ u, y = .int (pv (fun j => (rw' i).getD j 0) W) u) rfl rfl (by decide) (fun _ => rfl) (fun _ => rfl) rfl ?_
  refine n_cell rfl S.c3 ?_
  refine ⟨_, _, iter_list rfl (S.nws.isList (List.Mem.head _)) (by omega), ?body, ?done⟩
  case body =>
    intro C i v h2 tk2 m2 E2 hC hi hP hn2 hcl2 hk2
    have S2 := S.after hk2
    obtain ⟨D1, c1, vs1, y1, mem1, hI1⟩ := hr i (by omega)
    obtain ⟨len1, dig1⟩ := hrw i
    have hv1 := hI1.length
    rw [getD_get _ _ hi] at y1
    have hPv : v = .ref D1 := by
      have : ys[i]? = some v := hP
      rw [List.getElem?_eq_getElem hi, y1] at this
      exact (Option.some.inj this).symm
    subst hPv
    have mem2 : (D1, lst vs1 c1) ∈ (R, lst ys c) :: (kept ++ news) := List.mem_cons_of_mem _ (List.mem_append_left _ mem1)
    repeat (fail_if_success (with_reducible show wpAny _ _ (eval (Expr.Name _ _) _) _ _ _)); walk_at "go"
    refine' n_builtin X (topRead_of T) S2.fr.keep ?k3 ?k4 (by decide) ?_
    (case k3 => k_is)
    (case k4 => boot_by_name)
    repeat (fail_if_success (with_reducible show wpAny _ _ (eval (Expr.ListComp _ _ _ _) _) _ _ _)); walk_at "go"
    refine lcomp (fun k _ y own => own = [] ∧ ∃ u, y = .int ((rw' i).getD k 0 * 16 ^ (W - 1 - k)) u) rfl rfl (by decide) (by decide) rfl ?_
    repeat (fail_if_success (with_reducible show wpAny _ _ (eval (Expr.Name _ _) _) _ _ _)); walk_at "go"
    refine' n_builtin X (topRead_of T) S2.fr.keep ?k3 ?k4 (by decide) ?_
    (case k3 => k_is)
    (case k4 => boot_by_name)
    repeat (fail_if_success (with_reducible show wpAny _ _ (eval (Expr.Name _ _) _) _ _ _)); walk_at "go"
    refine n_cell rfl S2.c2 ?_
    have F2 := S2.fr
    have N2 := S2.nws
    repeat walk_at "go"
    rename IsRange _ _ _ _ _ _ _ _ => hr3
    rename (∀ (b : Addr) (o : Obj), _) => hk3
    rename IntsAre _ _ => hI1
    have S3 := S2.after hk3
    have hdig : ∀ j, j < W → -64 ≤ (rw' i).getD j 0 ∧ (rw' i).getD j 0 ≤ 64 := fun j hj => by
      have hj' : j < (rw' i).length := by omega
      have := dig1 _ (List.getElem_mem hj')
      rw [getD_get _ _ hj']
      omega
    have hru := range_up W (by omega)
    refine ⟨W, _, iter_range rfl hr3 hru.1 hru.2 (by omega), ?ibody, ?idone⟩
    case ibody =>
      intro C4 k v h4 tk4 m4 E4 hC4 hk hP4 hn4 hm4 hk4
      obtain ⟨u, rfl⟩ := hP4
      rw [show (0 + (k : Int) * 1) = ((k : Nat) : Int) by omega] at hm4
      have S4 := S3.after hk4
      refine wpAny_BinOp (Subscript_ (n_cell rfl (isCell_at hcl2 fun o e => hk4 _ o (hk3 _ o e)) (n_local hn4 hm4 ?_)))
      refine item_at (S4.nws.isList mem2) hI1 (by omega) (by omega) (fun u5 => ?_) (by with_unfolding_all rfl) (by intro _; with_unfolding_all rfl)
      refine wpAny_BinOp (wpAny_Constant_int (wpAny_BinOp (wpAny_BinOp (n_cell rfl S4.c2 (wpAny_Constant_int (sub_int (n_local hn4 hm4 (sub_int ?_))))))))
      rw [show ((W : Nat) : Int) - 1 - (k : Int) = ((W - 1 - k : Nat) : Int) by omega]
      refine pow16 (by omega) (mul_int ?_ ?_)
      · exact ⟨_, _, [], rfl, Kp.refl _, ⟨rfl, _, rfl⟩, Made.nil⟩
      · refine mul_ok ?_
        have := pow16_le (W - 1 - k) (by omega)
        omega
    case idone =>
      intro D4 h4 tk4 zs owns hD4 hpl4 hrow4 hoff4 hk4
      obtain ⟨c4, hc4⟩ := hpl4
      have hI4 := rows_ints hrow4 (fun k => (rw' i).getD k 0 * 16 ^ (W - 1 - k)) fun i v y own _ _ hF => hF.2
      have hgd : ∀ j, j < W → ((List.range W).map fun k => (rw' i).getD k 0 * 16 ^ (W - 1 - k)).getD j 0 = (rw' i).getD j 0 * 16 ^ (W - 1 - j) := fun j hj => by
        rw [getD_get _ _ (by simpa using hj)]
        simp
      have hps : ∀ j, j ≤ W → preSum (fun q => ((List.range W).map fun k => (rw' i).getD k 0 * 16 ^ (W - 1 - k)).getD q 0) j = preSum (fun q => (rw' i).getD q 0 * 16 ^ (W - 1 - q)) j := fun j hj => preSum_congr j fun q hq => hgd q (by omega)
      repeat (fail_if_success (with_reducible show wpAny _ _ (call (Value.builtin "sum") _) _ _ _)); walk_at "go"
      refine sum_at rfl (isList_of hc4) hI4 (by simp; omega) (fun j hj => ?_) fun h5 tk5 u5 k5 => ?_
      · have hj' : j < W := by simpa using hj
        rw [hgd j hj', hps _ (by omega)]
        have t1 := term_bound ((rw' i).getD j 0) W j hW (hdig j hj')
        have t2 := pre_bound (fun j => (rw' i).getD j 0) W hW hdig (j + 1) (by omega)
        omega
      · rw [List.length_map, List.length_range, hps _ (Nat.le_refl _)]
        exact ⟨_, _, [], rfl, Kp.trans' (Kp.trans' hk3 hk4) k5, ⟨rfl, _, rfl⟩, Made.nil⟩
  case done =>
    intro D3 h3 tk3 zs owns hD3 hpl hrow hoff hk3
    obtain ⟨c3, hc3⟩ := hpl
    have hI3 := rows_ints hrow (fun i => pv (fun j => (rw' i).getD j 0) W) fun i v y own _ _ hF => hF.2
    rw [hys] at hI3
    have h4 : ∃ t0 t1 t2 t3, zs = [.int (pv (fun j => (rw' 0).getD j 0) W) t0, .int (pv (fun j => (rw' 1).getD j 0) W) t1, .int (pv (fun j => (rw' 2).getD j 0) W) t2, .int (pv (fun j => (rw' 3).getD j 0) W) t3] := by
      rcases hI3 with _ | ⟨_, t0, hI3⟩
      rcases hI3 with _ | ⟨_, t1, hI3⟩
      rcases hI3 with _ | ⟨_, t2, hI3⟩
      rcases hI3 with _ | ⟨_, t3, hI3⟩
      cases hI3
      exact ⟨t0, t1, t2, t3, rfl⟩
    obtain ⟨t0, t1, t2, t3, rfl⟩ := h4
    have S4 := S.add hk3 hD3 hc3 fun _ e => nomatch e
    obtain ⟨F4, ⟨o1, o2, o3, d1, d2, d3, N4⟩, P4⟩ := S4
    clear F9 N9 hrow hI3
    repeat walk_at "go"
    rename Fr _ _ _ _ => F9
    rename News _ _ _ _ => N9
    have S9 : Lw h₀ L _ _ v1 (some (.int (W : Nat) t)) (some (.ref R)) _ := ⟨F9, ⟨o1, o2, o3, d1, d2, d3, N9⟩, P4⟩
    refine hQ _ _ t0 t1 t2 t3 _ ?_ ?_ S9.tl
    · exact ⟨rfl, rfl, rfl, rfl, trivial⟩
    · rfl
end
end Mine
namespace Mine
open PySem PySem.W PySem.Spec PySem.Calls PyProof.Rows
theorem fill_ST6 : (fun (_ : OpenLaw) => hd.heap_39) PySem.Challenge.rw_nb0043_01 = hd.heap_39 := by
  k_fill
  rfl
local macro_rules | `(tactic| walk_at "go") => `(tactic| first | (k_unfold; (try dsimp only)) | ((with_reducible show wpAny _ _ _ _ _ _); first | walk1 | (dsimp only; walk1)) | ((with_reducible show Frag.In _ _ ∧ _); refine ⟨by k_in, ?_⟩; try dsimp only [List.nil_append, List.cons_append]) | (refine PySem.W.ite_neg Bool.false_ne_true ?_) | (refine PySem.W.ite_pos rfl ?_) | (refine PySem.W.ite_neg (by simp only [decide_eq_true_eq, beq_iff_eq]; omega) ?_) | (refine PySem.W.ite_pos (by simp only [decide_eq_true_eq, beq_iff_eq]; omega) ?_))
section
variable {prog : Program} {w : World} {E : Value → Shared → Prop} {s : Shared} {mg mb : Str → Option Value} {p : Program} {loose : List Str} {mean : ExcName → Option Value} {Q : Flow → Shared → Prop} {h₀ : Heap} {L a : Addr} {cd : Value} {m : Str → Option Value} {news : List (Addr × Obj)}
set_option maxHeartbeats 4000000 in
theorem st6 {R : Addr} {ys : List Value} {kept : List (Addr × Obj)} {v1 : Option Value} {c W : Nat} {t : Tok} {rw' : Nat → List Int} (S : Lw h₀ L s.heap m v1 (some (.int (W : Nat) t)) (some (.ref R)) ((R, lst ys c) :: (kept ++ news))) (X : (hd.heap_39 w.params).In h₀) (T : Top p loose mean mg mb h₀)
    (hys : ys.length = 4) (hr : RowsEq rw' ys kept) (hW : W ≤ 8) (hrw : ∀ j, (rw' j).length = W ∧ ∀ n ∈ rw' j, 0 ≤ n ∧ n ≤ 15)
    (hQ : ∀ h' tk m' D zs cols c', zs.length = W → ColsEq rw' zs cols → m' (Str.ofString "columns") = some (.ref D) → (∀ x, x ≠ Str.ofString "columns" → m' x = m x) → Lw h₀ L h' m' v1 (some (.int (W : Nat) t)) (some (.ref R)) ((D, lst zs c') :: (cols ++ (R, lst ys c) :: (kept ++ news))) → Q .next { s with heap := h', toks := tk }) :
    wpAny (model prog w) (lawA w.params L a cd) (exec (stm w.params 6) (lawEnv w.params L a cd)) Q E s := by
  obtain ⟨e1, e2⟩ := law_is (P := w.params) (by k_is)
  unfold stm lawA lawEnv
  rw [e1, e2]
  show wpAny _ _ (exec (Stmt.Assign _ _ _) _) _ _ _
  clear e1 e2
  refine lcompC_assign (fun k _ y own => ∃ D c vs, y = .ref D ∧ own = [(D, lst vs c)] ∧ IntsAre vs (col rw' k)) rfl rfl (by decide) rfl (fun _ => rfl) (fun _ => rfl) rfl rfl rfl ?_
  repeat (fail_if_success (with_reducible show wpAny _ _ (eval (Expr.Name _ _) _) _ _ _)); walk_at "go"
  refine' n_builtin X (topRead_of T) S.fr.keep ?k3 ?k4 (by decide) ?_
  (case k3 => k_is)
  (case k4 => boot_by_name)
  repeat (fail_if_success (with_reducible show wpAny _ _ (eval (Expr.Name _ _) _) _ _ _)); walk_at "go"
  refine n_cell rfl S.c2 ?_
  have F2 := S.fr
  have N2 := S.nws
  repeat walk_at "go"
  rename IsRange _ _ _ _ _ _ _ _ => hr3
  rename (∀ (b : Addr) (o : Obj), _) => hk3
  have S3 := S.after hk3
  have hru := range_up W (by omega)
  refine ⟨W, _, m, iter_range rfl hr3 hru.1 hru.2 (by omega), S3.fr.ns, ?body, ?done⟩
  case body =>
    intro C k v h2 tk2 m2 E2 hC hk hP hn2 hcl2 hk2
    obtain ⟨u, rfl⟩ := hP
    rw [show (0 + (k : Int) * 1) = ((k : Nat) : Int) by omega] at hcl2
    have S4 := S3.after hk2
    refine lcomp (fun i _ y own => own = [] ∧ ∃ u, y = .int ((rw' i).getD k 0) u) rfl rfl (by decide) (by decide) rfl ?_
    refine n_cell rfl S4.c3 ?_
    refine ⟨_, _, iter_list rfl (S4.nws.isList (List.Mem.head _)) (by omega), ?ibody, ?idone⟩
    case ibody =>
      intro C5 i v h5 tk5 m5 E5 hC5 hi hP hn5 hm5 hk5
      have S5 := S4.after hk5
      obtain ⟨D1, c1, vs1, y1, mem1, hI1⟩ := hr i (by omega)
      obtain ⟨len1, dig1⟩ := hrw i
      have hv1 := hI1.length
      rw [getD_get _ _ hi] at y1
      have hPv : v = .ref D1 := by
        have : ys[i]? = some v := hP
        rw [List.getElem?_eq_getElem hi, y1] at this
        exact (Option.some.inj this).symm
      subst hPv
      have mem2 : (D1, lst vs1 c1) ∈ (R, lst ys c) :: (kept ++ news) := List.mem_cons_of_mem _ (List.mem_append_left _ mem1)
      refine Subscript_ (n_local hn5 hm5 (n_cell rfl (isCell_at hcl2 fun o e => hk5 _ o e) ?_))
      refine item_at (S5.nws.isList mem2) hI1 (by omega) (by omega) (fun u5 => ?_) (by with_unfolding_all rfl) (by intro _; with_unfolding_all rfl)
      exact ⟨_, _, [], rfl, Kp.refl _, ⟨rfl, _, rfl⟩, Made.nil⟩
    case idone =>
      intro D4 h4 tk4 zs owns hD4 hpl4 hrow4 hoff4 hk4
      obtain ⟨c4, hc4⟩ := hpl4
      have hI4 := rows_ints hrow4 (fun i => (rw' i).getD k 0) fun i v y own _ _ hF => hF.2
      rw [hys] at hI4
      exact ⟨_, _, [(D4, lst zs c4)], rfl, hk4, ⟨D4, c4, zs, rfl, rfl, hI4⟩, fun q hq => by
        rw [List.mem_singleton] at hq
        subst hq
        exact ⟨hD4, hc4⟩⟩
  case done =>
    intro D3 h4 tk4 zs owns hD3 hpl hrow hoff hns hk4
    obtain ⟨c3, hc3⟩ := hpl
    have S4 := S3.compBut hk4 hns hrow (fun i v y own hF p hp => by
      obtain ⟨D, c, vs, _, e, _⟩ := hF
      rw [e, List.mem_singleton] at hp
      subst hp
      exact ⟨_, _, rfl⟩) hD3 hc3
    refine hQ _ _ _ D3 zs owns.flatten c3 hrow.len (fun j hj => ?_) (if_pos rfl) (fun x hx => if_neg hx) S4
    have hj' : j < W := by rw [hrow.len] at hj; exact hj
    obtain ⟨_, _, D5, c5, vs5, e5, o5, i5⟩ := hrow.rel j hj'
    exact ⟨D5, c5, vs5, e5, own_mem hrow hj' (by rw [o5]; exact List.mem_singleton.mpr rfl), i5⟩
end
end Mine
namespace Mine
open PySem PySem.W PySem.Spec PySem.Calls PyProof.Rows
theorem fill_ST7 : (fun (_ : OpenLaw) => hd.heap_39) PySem.Challenge.rw_nb0043_01 = hd.heap_39 := by
  k_fill
  rfl
local macro_rules | `(tactic| walk_at "go") => `(tactic| first | (k_unfold; (try dsimp only)) | ((with_reducible show wpAny _ _ _ _ _ _); first | walk1 | (dsimp only; walk1)) | ((with_reducible show Frag.In _ _ ∧ _); refine ⟨by k_in, ?_⟩; try dsimp only [List.nil_append, List.cons_append]) | (refine PySem.W.ite_neg Bool.false_ne_true ?_) | (refine PySem.W.ite_pos rfl ?_) | (refine PySem.W.ite_neg (by simp only [decide_eq_true_eq, beq_iff_eq]; omega) ?_) | (refine PySem.W.ite_pos (by simp only [decide_eq_true_eq, beq_iff_eq]; omega) ?_))
section
variable {prog : Program} {w : World} {E : Value → Shared → Prop} {s : Shared} {mg mb : Str → Option Value} {p : Program} {loose : List Str} {mean : ExcName → Option Value} {Q : Flow → Shared → Prop} {h₀ : Heap} {L a : Addr} {cd : Value} {m : Str → Option Value} {news : List (Addr × Obj)}
set_option maxHeartbeats 4000000 in
theorem st7 {Dc : Addr} {zs : List Value} {cols : List (Addr × Obj)} {v1 v2 v3 : Option Value} {cc W : Nat} {t0 t1 t2 t3 : Tok} {rw' : Nat → List Int} (S : Lw h₀ L s.heap m v1 v2 v3 ((Dc, lst zs cc) :: (cols ++ news))) (X : (hd.heap_39 w.params).In h₀) (T : Top p loose mean mg mb h₀)
    (hzs : zs.length = W) (hc : ColsEq rw' zs cols) (h0W : 0 < W) (hW : W ≤ 8) (hrw : ∀ j, (rw' j).length = W ∧ ∀ n ∈ rw' j, 0 ≤ n ∧ n ≤ 15) (hm : Told m ((Str.ofString "columns", .ref Dc) :: abcd rw' W t0 t1 t2 t3))
    (hQ : ∀ h' tk, Lw h₀ L h' m v1 v2 v3 ((Dc, lst zs cc) :: (cols ++ news)) → Q .next { s with heap := h', toks := tk }) :
    wpAny (model prog w) (lawA w.params L a cd) (exec (stm w.params 7) (lawEnv w.params L a cd)) Q E s := by
  obtain ⟨e1, e2⟩ := law_is (P := w.params) (by k_is)
  unfold stm lawA lawEnv
  rw [e1, e2]
  show wpAny _ _ (exec (Stmt.If _ _ _ _) _) _ _ _
  clear e1 e2
  have P := S.plain
  obtain ⟨F, ⟨o1, o2, o3, d1, d2, d3, N⟩, _⟩ := S
  have F9 := fr_over ((Str.ofString "columns", .ref Dc) :: abcd rw' W t0 t1 t2 t3) F hm
  clear F
  repeat (fail_if_success (with_reducible show wpAny _ _ (eval (Expr.ListComp _ _ _ _) _) _ _ _)); walk_at "go"
  refine lcomp (fun k _ y own => own = [] ∧ ∃ x u, y = .float x u ∧ Is x (csum rw' k) 2) rfl rfl (by decide) (by decide) rfl ?_
  repeat walk_at "go"
  refine ⟨_, _, iter_list rfl (N.isList (.tail _ (.tail _ (.tail _ (.head _))))) (by omega), ?body, ?done⟩
  case body =>
    intro C k v h2 tk2 m2 E2 hC hk hP hn2 hm2 hk2
    obtain ⟨D1, c1, vs1, y1, mem1, hI1⟩ := hc k hk
    rw [getD_get _ _ hk] at y1
    have hPv : v = .ref D1 := by
      have : zs[k]? = some v := hP
      rw [List.getElem?_eq_getElem hk, y1] at this
      exact (Option.some.inj this).symm
    subst hPv
    have N2 := news_after N hk2
    have F2 := F9.after hk2
    have hD1 := N2.isList (.tail _ (.tail _ (.tail _ (.tail _ (List.mem_append_left _ mem1)))))
    repeat (fail_if_success (with_reducible show wpAny _ _ (eval (Expr.Name _ _) _) _ _ _)); walk_at "go"
    refine' n_global X (topRead_of T) F2.keep ?k3 ?_
    (case k3 => k_is)
    repeat (fail_if_success (with_reducible show wpAny _ _ (eval (Expr.Name _ _) _) _ _ _)); walk_at "go"
    refine n_local hn2 hm2 ?_
    repeat (fail_if_success (with_reducible show wpAny _ _ (call (Value.ref 63) _) _ _ _)); walk_at "go"
    have q0 := dig_of hrw 0 k
    have q1 := dig_of hrw 1 k
    have q2 := dig_of hrw 2 k
    have q3 := dig_of hrw 3 k
    obtain ⟨f1, f2, f3⟩ := four_facts _ _ _ _ q0 q1 q2 q3
    refine' fmean_0 (r := csum rw' k) (g := 2) ?x1 ?x2 ?x3 ?x4 hD1 hI1 ?x5 ?x6 ?x7 ?x8 ?x9 ?y1 ?_
    (case x1 => exact X.keeps F2.keep)
    (case x2 => exact topRead_of (T.keeps F2.keep))
    (case x3 => exact rfl)
    (case x4 => exact Nat.lt_of_le_of_lt (Nat.le_add_right _ 5) (law_room _))
    (case x5 => exact ⟨Nat.zero_lt_succ _, show 4 ≤ 1000 by decide⟩)
    (case x6 => exact f1)
    (case x7 => exact f2)
    (case x8 => show List.sum [_, _, _, _] * 2 ^ 2 = csum rw' k * 4; rw [f3]; rfl)
    (case x9 => decide)
    (case y1 => unfold csum; omega)
    intro h3 tk3 x3 u3 k3 hx3
    exact ⟨_, _, [], rfl, k3, ⟨rfl, x3, u3, rfl, hx3⟩, Made.nil⟩
  case done =>
    intro D3 h4 tk4 fs owns hD3 hpl hrow hoff hk4
    obtain ⟨c3, hc3⟩ := hpl
    have N4 := news_add F9 N hk4 hD3 hc3
    have F4 := F9.after hk4
    clear F9 N
    have hfl : FltAt fs.toArray fs.length (csum rw') 2 := fun j hj => by
      obtain ⟨v, _, _, x, u, e, hx⟩ := hrow.rel j (by rw [← hrow.len]; exact hj)
      rw [getD_get _ _ hj] at e
      exact ⟨x, u, by rw [← e]; simp [hj], hx⟩
    have hfl' : fs.length = W := by rw [hrow.len, hzs]
    repeat (fail_if_success (with_reducible show wpAny _ _ (call (Value.ref 96) _) _ _ _)); walk_at "go"
    have hdig : ∀ j, j < fs.length → -64 ≤ csum rw' j ∧ csum rw' j ≤ 64 := fun j _ => by
      have q0 := dig_of hrw 0 j
      have q1 := dig_of hrw 1 j
      have q2 := dig_of hrw 2 j
      have q3 := dig_of hrw 3 j
      unfold csum
      omega
    have hpos : 0 ≤ pv (csum rw') fs.length := pv_nonneg _ _ fun j => by
      have q0 := dig_of hrw 0 j
      have q1 := dig_of hrw 1 j
      have q2 := dig_of hrw 2 j
      have q3 := dig_of hrw 3 j
      unfold csum
      omega
    obtain ⟨b1, b2⟩ := pv_ok (csum rw') fs.length (by omega) hdig
    rename Fr _ _ _ _ => F9
    rename News _ _ _ _ => N9
    refine' written_call (V := pv (csum rw') fs.length) ?x1 ?x2 ?x3 ?x4 ?x5 ?x6 ?x7 ?x8 ?x9 ?y1 ?y2 ?y3 b2 ?_
    (case x1 => exact X.keeps F9.keep)
    (case x2 => exact topRead_of (T.keeps F9.keep))
    (case x3 => exact rfl)
    (case x4 => exact Nat.lt_of_le_of_lt (Nat.add_le_add_left (by decide : 2 ≤ 5) _) (law_room _))
    (case x5 => exact N9.isList (.head _))
    (case x6 => omega)
    (case x7 => exact sum_floats hfl (by omega) (by omega) (by decide) hdig)
    (case x8 => decide)
    (case x9 => omega)
    (case y1 => decide)
    (case y2 => omega)
    (case y3 => omega)
    intro h5 tk5 u5 k5
    replace F9 := F9.after k5
    replace N9 := news_after N9 k5
    repeat (fail_if_success (with_reducible show wpAny _ _ (call (Value.ref 77) _) _ _ _)); walk_at "go"
    rename Fr _ _ _ _ => F9
    rename News _ _ _ _ => N9
    refine' read_call ?x1 ?x2 ?x3 ?x4 ?x5 ?_
    (case x1 => exact X.keeps F9.keep)
    (case x2 => exact topRead_of (T.keeps F9.keep))
    (case x3 => exact rfl)
    (case x4 => exact Nat.lt_of_le_of_lt (Nat.le_add_right _ 5) (law_room _))
    (case x5 => exact Nat.le_trans (ap_length 12 _ b2) (by decide))
    intro h6 tk6 u6 k6
    replace F9 := F9.after k6
    replace N9 := news_after N9 k6
    have hsum := pv_csum rw' fs.length
    rw [hfl'] at hsum hpos
    rw [hfl', show (((pv (csum rw') W).natAbs : Nat) : Int) = pv (csum rw') W by omega, hsum]
    repeat walk_at "go"
    refine PySem.W.ite_neg (by simp) ?_
    repeat walk_at "go"
    rename Fr _ _ _ _ => F9
    rename News _ _ _ _ => N9
    rw [over_eq hm] at F9
    have S9 : Lw h₀ L _ m v1 v2 v3 _ := ⟨F9, ⟨o1, o2, o3, d1, d2, d3, ntl N9⟩, P⟩
    exact hQ _ _ S9
end
end Mine
namespace Mine
open PySem PySem.W PySem.Spec PySem.Calls PyProof.Rows
theorem fill_ST8 : (fun (_ : OpenLaw) => hd.heap_39) PySem.Challenge.rw_nb0043_01 = hd.heap_39 := by
  k_fill
  rfl
local macro_rules | `(tactic| walk_at "go") => `(tactic| first | (k_unfold; (try dsimp only)) | ((with_reducible show wpAny _ _ _ _ _ _); first | walk1 | (dsimp only; walk1)) | ((with_reducible show Frag.In _ _ ∧ _); refine ⟨by k_in, ?_⟩; try dsimp only [List.nil_append, List.cons_append]) | (refine PySem.W.ite_neg Bool.false_ne_true ?_) | (refine PySem.W.ite_pos rfl ?_) | (refine PySem.W.ite_neg (by simp only [decide_eq_true_eq, beq_iff_eq]; omega) ?_) | (refine PySem.W.ite_pos (by simp only [decide_eq_true_eq, beq_iff_eq]; omega) ?_))
section
variable {prog : Program} {w : World} {E : Value → Shared → Prop} {s : Shared} {mg mb : Str → Option Value} {p : Program} {loose : List Str} {mean : ExcName → Option Value} {Q : Flow → Shared → Prop} {h₀ : Heap} {L a : Addr} {cd : Value} {m : Str → Option Value} {news : List (Addr × Obj)}
set_option maxHeartbeats 4000000 in
theorem st8 {Dc : Addr} {zs : List Value} {cols : List (Addr × Obj)} {v1 v2 v3 : Option Value} {cc W : Nat} {rw' : Nat → List Int} (S : Lw h₀ L s.heap m v1 v2 v3 ((Dc, lst zs cc) :: (cols ++ news))) (X : (hd.heap_39 w.params).In h₀) (T : Top p loose mean mg mb h₀)
    (hzs : zs.length = W) (hc : ColsEq rw' zs cols) (hW : W ≤ 8) (hrw : ∀ j, (rw' j).length = W ∧ ∀ n ∈ rw' j, 0 ≤ n ∧ n ≤ 15) (hm : m (Str.ofString "columns") = some (.ref Dc))
    (hQ : ∀ h' tk m' D fs c', fs.length = W → FltAt fs.toArray fs.length (cless rw') 1 → m' (Str.ofString "less") = some (.ref D) → (∀ x, x ≠ Str.ofString "less" → m' x = m x) → Lw h₀ L h' m' v1 v2 v3 ((D, lst fs c') :: news) → Q .next { s with heap := h', toks := tk }) :
    wpAny (model prog w) (lawA w.params L a cd) (exec (stm w.params 8) (lawEnv w.params L a cd)) Q E s := by
  obtain ⟨e1, e2⟩ := law_is (P := w.params) (by k_is)
  unfold stm lawA lawEnv
  rw [e1, e2]
  show wpAny _ _ (exec (Stmt.Assign _ _ _) _) _ _ _
  clear e1 e2
  refine lcomp_assign (fun k _ y own => own = [] ∧ ∃ x u, y = .float x u ∧ Is x (cless rw' k) 1) rfl rfl (by decide) rfl (by decide) rfl rfl rfl ?_
  refine n_local S.fr.ns hm ?_
  refine ⟨_, _, m, iter_list rfl (S.nws.isList (.head _)) (by omega), S.fr.ns, ?body, ?done⟩
  case body =>
    intro C k v h2 tk2 m2 E2 hC hk hP hn2 hm2 hk2
    obtain ⟨D1, c1, vs1, y1, mem1, hI1⟩ := hc k hk
    rw [getD_get _ _ hk] at y1
    have hPv : v = .ref D1 := by
      have : zs[k]? = some v := hP
      rw [List.getElem?_eq_getElem hk, y1] at this
      exact (Option.some.inj this).symm
    subst hPv
    have S2 := S.after hk2
    have hD1 := S2.nws.isList (.tail _ (List.mem_append_left _ mem1))
    repeat (fail_if_success (with_reducible show wpAny _ _ (eval (Expr.Name _ _) _) _ _ _)); walk_at "go"
    refine' n_global X (topRead_of T) S2.fr.keep ?k3 ?_
    (case k3 => k_is)
    repeat (fail_if_success (with_reducible show wpAny _ _ (eval (Expr.Name _ _) _) _ _ _)); walk_at "go"
    refine n_local hn2 hm2 ?_
    repeat (fail_if_success (with_reducible show wpAny _ _ (newList _) _ _ _)); walk_at "go"
    refine list_at ?_ (by rw [sizeLine_eq]; simp)
    intro D3 h3 k3 hD3 hd3
    have S3 := S2.after k3
    repeat (fail_if_success (with_reducible show wpAny _ _ (call (Value.ref 63) _ _) _ _ _)); walk_at "go"
    refine ⟨X.keeps S3.fr.keep, ?_⟩
    try dsimp only [List.nil_append, List.cons_append]
    repeat (fail_if_success (with_reducible show wpAny _ _ (call (Value.ref 63) _ _) _ _ _)); walk_at "go"
    have q0 := dig_of hrw 0 k
    have q1 := dig_of hrw 1 k
    have q2 := dig_of hrw 2 k
    have q3 := dig_of hrw 3 k
    refine' fmean_w (r := cless rw' k) (g := 1) ?x1 ?x2 ?x3 ?x4 ?x5 ?x6 ?hJ ?x7 ?x8 ?x9 ?y1 ?y2 ?y3 ?y4 ?_
    (case x1 => exact X.keeps S3.fr.keep)
    (case x2 => exact topRead_of (T.keeps S3.fr.keep))
    (case x3 => exact rfl)
    (case x4 => exact Nat.lt_of_le_of_lt (Nat.le_add_right _ 5) (law_room _))
    (case x5 => exact isList_kp hD1 k3)
    (case x6 => exact isList_of hd3)
    (case hJ => exact IntsAre.cons 1 _ (IntsAre.cons 1 _ (IntsAre.cons 1 _ (IntsAre.cons (-1) _ IntsAre.nil))))
    (case x7 => exact sum_less hI1 (IntsAre.cons 1 _ (IntsAre.cons 1 _ (IntsAre.cons 1 _ (IntsAre.cons (-1) _ IntsAre.nil)))) q0 q1 q2 q3 (isList_kp hD1 k3) (isList_of hd3))
    (case x8 => decide)
    (case x9 => decide)
    (case y1 => decide)
    (case y2 => show cless rw' k * 2 ^ 1 = cless rw' k * 2 * 2 ^ 0; omega)
    (case y3 => decide)
    (case y4 => unfold cless; omega)
    intro h4 tk4 x4 u4 k4 hx4
    exact ⟨_, _, [], rfl, k3.trans k4, ⟨rfl, x4, u4, rfl, hx4⟩, Made.nil⟩
  case done =>
    intro D3 h4 tk4 fs owns hD3 hpl hrow hoff hns hk4
    obtain ⟨c3, hc3⟩ := hpl
    have S4 := S.compBut hk4 hns hrow (fun i v y own hF p hp => by
      rw [hF.1] at hp
      exact nomatch hp) hD3 hc3
    refine hQ _ _ _ D3 fs c3 (by rw [hrow.len, hzs]) (fun j hj => ?_) (if_pos rfl) (fun x hx => if_neg hx) (S4.sub fun p hp => ?_)
    · obtain ⟨v, _, _, x, u, e, hx⟩ := hrow.rel j (by rw [← hrow.len]; exact hj)
      rw [getD_get _ _ hj] at e
      exact ⟨x, u, by rw [← e]; simp [hj], hx⟩
    · rcases List.mem_cons.mp hp with rfl | hp
      · exact List.mem_cons_self
      · exact List.mem_cons_of_mem _ (List.mem_append_right _ (List.mem_cons_of_mem _ (List.mem_append_right _ hp)))
end
end Mine
namespace Mine
open PySem PySem.W PySem.Spec PySem.Calls PyProof.Rows
theorem fill_ST9 : (fun (_ : OpenLaw) => hd.heap_39) PySem.Challenge.rw_nb0043_01 = hd.heap_39 := by
  k_fill
  rfl
local macro_rules | `(tactic| walk_at "go") => `(tactic| first | (k_unfold; (try dsimp only)) | ((with_reducible show wpAny _ _ _ _ _ _); first | walk1 | (dsimp only; walk1)) | ((with_reducible show Frag.In _ _ ∧ _); refine ⟨by k_in, ?_⟩; try dsimp only [List.nil_append, List.cons_append]) | (refine PySem.W.ite_neg Bool.false_ne_true ?_) | (refine PySem.W.ite_pos rfl ?_) | (refine PySem.W.ite_neg (by simp only [decide_eq_true_eq, beq_iff_eq]; omega) ?_) | (refine PySem.W.ite_pos (by simp only [decide_eq_true_eq, beq_iff_eq]; omega) ?_))
section
variable {prog : Program} {w : World} {E : Value → Shared → Prop} {s : Shared} {mg mb : Str → Option Value} {p : Program} {loose : List Str} {mean : ExcName → Option Value} {Q : Flow → Shared → Prop} {h₀ : Heap} {L a : Addr} {cd : Value} {m : Str → Option Value} {news : List (Addr × Obj)}
set_option maxHeartbeats 4000000 in
theorem st9 {Dl : Addr} {fs : List Value} {v1 v2 v3 : Option Value} {cc W : Nat} {t0 t1 t2 t3 : Tok} {rw' : Nat → List Int} (S : Lw h₀ L s.heap m v1 v2 v3 ((Dl, lst fs cc) :: news)) (X : (hd.heap_39 w.params).In h₀) (T : Top p loose mean mg mb h₀)
    (hfl' : fs.length = W) (hfl : FltAt fs.toArray fs.length (cless rw') 1) (h0W : 0 < W) (hW : W ≤ 8) (hrw : ∀ j, (rw' j).length = W ∧ ∀ n ∈ rw' j, 0 ≤ n ∧ n ≤ 15) (hm : Told m ((Str.ofString "less", .ref Dl) :: abcd rw' W t0 t1 t2 t3))
    (hQ : ∀ h' tk, Lw h₀ L h' m v1 v2 v3 ((Dl, lst fs cc) :: news) → Q .next { s with heap := h', toks := tk }) :
    wpAny (model prog w) (lawA w.params L a cd) (exec (stm w.params 9) (lawEnv w.params L a cd)) Q E s := by
  obtain ⟨e1, e2⟩ := law_is (P := w.params) (by k_is)
  unfold stm lawA lawEnv
  rw [e1, e2]
  show wpAny _ _ (exec (Stmt.If _ _ _ _) _) _ _ _
  clear e1 e2
  have P := S.plain
  obtain ⟨F, ⟨o1, o2, o3, d1, d2, d3, N⟩, _⟩ := S
  have F9 := fr_over ((Str.ofString "less", .ref Dl) :: abcd rw' W t0 t1 t2 t3) F hm
  clear F
  repeat (fail_if_success (with_reducible show wpAny _ _ (call (Value.ref 96) _) _ _ _)); walk_at "go"
  have hdig : ∀ j, j < fs.length → -64 ≤ cless rw' j ∧ cless rw' j ≤ 64 := fun j _ => by
    have q0 := dig_of hrw 0 j
    have q1 := dig_of hrw 1 j
    have q2 := dig_of hrw 2 j
    have q3 := dig_of hrw 3 j
    unfold cless
    omega
  obtain ⟨b1, b2⟩ := pv_ok (cless rw') fs.length (by omega) hdig
  rename Fr _ _ _ _ => F9
  rename News _ _ _ _ => N9
  refine' written_call (V := pv (cless rw') fs.length) ?x1 ?x2 ?x3 ?x4 ?x5 ?x6 ?x7 ?x8 ?x9 ?y1 ?y2 ?y3 b2 ?_
  (case x1 => exact X.keeps F9.keep)
  (case x2 => exact topRead_of (T.keeps F9.keep))
  (case x3 => exact rfl)
  (case x4 => exact Nat.lt_of_le_of_lt (Nat.add_le_add_left (by decide : 2 ≤ 5) _) (law_room _))
  (case x5 => exact N9.isList (.tail _ (.tail _ (.tail _ (.head _)))))
  (case x6 => omega)
  (case x7 => exact sum_floats hfl (by omega) (by omega) (by decide) hdig)
  (case x8 => decide)
  (case x9 => omega)
  (case y1 => decide)
  (case y2 => omega)
  (case y3 => omega)
  intro h5 tk5 u5 k5
  replace F9 := F9.after k5
  replace N9 := news_after N9 k5
  repeat (fail_if_success (with_reducible show wpAny _ _ (call (Value.ref 77) _) _ _ _)); walk_at "go"
  rename Fr _ _ _ _ => F9
  rename News _ _ _ _ => N9
  refine' read_call ?x1 ?x2 ?x3 ?x4 ?x5 ?_
  (case x1 => exact X.keeps F9.keep)
  (case x2 => exact topRead_of (T.keeps F9.keep))
  (case x3 => exact rfl)
  (case x4 => exact Nat.lt_of_le_of_lt (Nat.le_add_right _ 5) (law_room _))
  (case x5 => exact Nat.le_trans (ap_length 12 _ b2) (by decide))
  intro h6 tk6 u6 k6
  replace F9 := F9.after k6
  replace N9 := news_after N9 k6
  have hsum := pv_cless rw' fs.length
  rw [hfl'] at hsum
  rw [hfl', hsum]
  repeat walk_at "go"
  refine PySem.W.ite_neg (by simp only [bne_iff_ne, ne_eq, Decidable.not_not]; split <;> omega) ?_
  repeat walk_at "go"
  rename Fr _ _ _ _ => F9
  rename News _ _ _ _ => N9
  rw [over_eq hm] at F9
  have S9 : Lw h₀ L _ m v1 v2 v3 _ := ⟨F9, ⟨o1, o2, o3, d1, d2, d3, N9⟩, P⟩
  exact hQ _ _ S9
end
end Mine
namespace Mine
open PySem PySem.W PySem.Spec PySem.Calls PyProof.Rows
theorem fill_TU : (fun (_ : OpenLaw) => hd.heap_39) PySem.Challenge.rw_nb0043_01 = hd.heap_39 := by
  k_fill
  rfl
local macro_rules | `(tactic| walk_at "go") => `(tactic| first | (k_unfold; (try dsimp only)) | ((with_reducible show wpAny _ _ _ _ _ _); first | walk1 | (dsimp only; walk1)) | ((with_reducible show Frag.In _ _ ∧ _); refine ⟨by k_in, ?_⟩; try dsimp only [List.nil_append, List.cons_append]) | (refine PySem.W.ite_neg Bool.false_ne_true ?_) | (refine PySem.W.ite_pos rfl ?_) | (refine PySem.W.ite_neg (by simp only [decide_eq_true_eq, beq_iff_eq]; omega) ?_) | (refine PySem.W.ite_pos (by simp only [decide_eq_true_eq, beq_iff_eq]; omega) ?_))
section
variable {prog : Program} {w : World} {E : Value → Shared → Prop} {s : Shared} {mg mb : Str → Option Value} {p : Program} {loose : List Str} {mean : ExcName → Option Value} {Q : Flow → Shared → Prop} {h₀ : Heap} {L a : Addr} {cd : Value} {m : Str → Option Value} {news : List (Addr × Obj)}
set_option maxHeartbeats 4000000 in
theorem turn10 {z : Int} {u : Tok} (F : Fr h₀ L s.heap m) (N : News h₀ L s.heap news) (X : (hd.heap_39 w.params).In h₀) (T : Top p loose mean mg mb h₀)
    (hm : m (Str.ofString "x") = some (.int z u)) (hz : z.natAbs < 16 ^ 9)
    (hQ : ∀ h' tk m', Fr h₀ L h' m' → News h₀ L h' news → Q .next { s with heap := h', toks := tk }) :
    wpAny (model prog w) (lawA w.params L a cd) (execs (loopB w.params) (lawEnv w.params L a cd)) Q E s := by
  obtain ⟨e1, e2⟩ := law_is (P := w.params) (by k_is)
  unfold loopB stm lawA lawEnv
  rw [e1, e2]
  show wpAny _ _ (execs (_ :: _) _) _ _ _
  clear e1 e2
  have F9 := fr_over [(Str.ofString "x", .int z u)] F ⟨hm, trivial⟩
  clear F hm
  refine wpAny_execs_cons ?_
  have hal := ap_length 9 z.natAbs hz
  obtain ⟨lf1, lf2⟩ := lets_facts z.natAbs
  have hll : (lets z.natAbs).length = (ap z.natAbs).length := by unfold lets; simp
  refine lcomp_assign (fun k _ y own => own = [] ∧ ∃ u, y = .int ((lets z.natAbs).getD k 0) u) rfl rfl (by decide) rfl (by decide) rfl rfl rfl ?_
  repeat (fail_if_success (with_reducible show wpAny _ _ (call (Value.ref 70) _) _ _ _)); walk_at "go"
  rename Fr _ _ _ _ => F9
  rename News _ _ _ _ => N9
  refine' int2ap (.inl ⟨z, u, rfl, rfl⟩) ?x1 ?x2 ?x3 ?x4 ?x5 ?_
  (case x1 => exact X.keeps F9.keep)
  (case x2 => exact topRead_of (T.keeps F9.keep))
  (case x3 => exact rfl)
  (case x4 => exact Nat.lt_of_le_of_lt (Nat.le_add_right _ 5) (law_room _))
  (case x5 => omega)
  intro h2 tk2 u2 k2
  replace F9 := F9.after k2
  replace N9 := news_after N9 k2
  refine ⟨_, _, _, iter_bytes rfl (by simp; omega), F9.ns, ?body, ?done⟩
  case body =>
    intro C k v h3 tk3 m3 E3 hC hk hP hn3 hm3 hk3
    obtain ⟨c, u3, e3, rfl⟩ := hP
    refine wpAny_BinOp (n_local hn3 hm3 (wpAny_Constant_int (sub_int ?_)))
    have hk' : k < (ap z.natAbs).length := by simpa using hk
    have e4 : (ap z.natAbs)[k] = c := by
      rw [List.getElem?_toArray, List.getElem?_eq_getElem hk'] at e3
      exact Option.some.inj e3
    have e5 : (lets z.natAbs).getD k 0 = (c.toNat : Int) - 65 := by
      rw [getD_get _ _ (by omega)]
      unfold lets
      rw [List.getElem_map, e4]
    rw [← e5]
    exact ⟨_, _, [], rfl, Kp.refl _, ⟨rfl, _, rfl⟩, Made.nil⟩
  case done =>
    intro D h3 tk3 ys owns hD hpl hrow hoff hns hk3
    obtain ⟨c3, hc3⟩ := hpl
    have N3 := news_addB F9 N9 hk3 hD hc3
    have F3 := fr_but F9 hk3 hns
    have hI3 := rows_ints hrow (fun k => (lets z.natAbs).getD k 0) fun i v y own _ _ hF => hF.2
    have hn3 : (ap z.natAbs).toArray.size = (lets z.natAbs).length := by rw [List.size_toArray, hll]
    rw [hn3, range_map _ (fun x => x), List.map_id'] at hI3
    clear F9 N9 hrow hoff hns
    have hyl := hI3.length
    have F4 := fr_over [(Str.ofString "letters", .ref D), (Str.ofString "x", .int z u)] F3 ⟨rfl, rfl, trivial⟩
    clear F3
    repeat (fail_if_success (with_reducible show wpAny _ _ (call (Value.ref 89) _) _ _ _)); walk_at "go"
    rename Fr _ _ _ _ => F9
    rename News _ _ _ _ => N9
    have hdig : ∀ j, j < ys.length → -64 ≤ (lets z.natAbs).getD j 0 ∧ (lets z.natAbs).getD j 0 ≤ 64 := fun j hj => by
      have hj' : j < (lets z.natAbs).length := by omega
      have := lf2 _ (List.getElem_mem hj')
      rw [getD_get _ _ hj']
      omega
    have hpv : pv (fun j => (lets z.natAbs).getD j 0) ys.length = (z.natAbs : Int) := by rw [hyl]; exact lf1
    refine' mean_call (r := 15 * (z.natAbs : Int)) (g := 4 * ys.length) ?x1 ?x2 ?x3 ?x4 ?x5 ?x6 ?x7 ?x8 ?x9 ?y1 ?_
    (case x1 => exact X.keeps F9.keep)
    (case x2 => exact topRead_of (T.keeps F9.keep))
    (case x3 => exact rfl)
    (case x4 => exact Nat.lt_of_le_of_lt (Nat.add_le_add_left (by decide : 1 ≤ 5) _) (law_room _))
    (case x5 => exact N9.isList (.head _))
    (case x6 => omega)
    (case x7 => exact sum_ints hI3 (by omega) hdig)
    (case x8 => rw [hpv, Int.pow_mul, show (2 : Int) ^ 4 = 16 from rfl, Int.pow_zero, Int.mul_one])
    (case x9 => omega)
    (case y1 => omega)
    intro h5 tk5 x5 u5 k5 hx5
    replace F9 := F9.after k5
    replace N9 := news_after N9 k5
    repeat (fail_if_success (with_reducible show wpAny _ _ (call (Value.ref 70) _) _ _ _)); walk_at "go"
    rename Fr _ _ _ _ => F9
    rename News _ _ _ _ => N9
    refine' int2ap (.inl ⟨z, u, rfl, rfl⟩) ?x1 ?x2 ?x3 ?x4 ?x5 ?_
    (case x1 => exact X.keeps F9.keep)
    (case x2 => exact topRead_of (T.keeps F9.keep))
    (case x3 => exact rfl)
    (case x4 => exact Nat.lt_of_le_of_lt (Nat.le_add_right _ 5) (law_room _))
    (case x5 => omega)
    intro h6 tk6 u6 k6
    replace F9 := F9.after k6
    replace N9 := news_after N9 k6
    repeat (fail_if_success (with_reducible show wpAny _ _ (call (Value.ref 77) _) _ _ _)); walk_at "go"
    rename Fr _ _ _ _ => F9
    rename News _ _ _ _ => N9
    refine' read_call ?x1 ?x2 ?x3 ?x4 ?x5 ?_
    (case x1 => exact X.keeps F9.keep)
    (case x2 => exact topRead_of (T.keeps F9.keep))
    (case x3 => exact rfl)
    (case x4 => exact Nat.lt_of_le_of_lt (Nat.le_add_right _ 5) (law_room _))
    (case x5 => omega)
    intro h7 tk7 u7 k7
    replace F9 := F9.after k7
    replace N9 := news_after N9 k7
    repeat walk_at "go"
    refine PySem.W.ite_neg (by simp only [bne_iff_ne, ne_eq, Decidable.not_not]; split <;> omega) ?_
    repeat (fail_if_success (with_reducible show wpAny _ _ (binaryOp Operator.Mult _ _) _ _ _)); walk_at "go"
    rw [Int.toNat_natCast, ← hyl]
    have hb16 := pow16_le ys.length (by omega)
    refine mul_fi_fits (Nat.lt_of_le_of_lt (show ((16 : Int) ^ ys.length).natAbs ≤ 2 ^ 53 by omega) (by decide +kernel)) ?_
    have y1 : Is (Float64.mul x5 (Float64.ofInt (16 ^ ys.length))) (15 * (z.natAbs : Int)) 0 := hx5.mulTo (is_ofInt (show ((16 : Int) ^ ys.length).natAbs ≤ 2 ^ 53 by omega)) (by rw [pow16_two]) (by decide) (by omega)
    repeat (fail_if_success (with_reducible show wpAny _ _ (compareOp _ _ _) _ _ _)); walk_at "go"
    refine ne_fi ?_
    rw [y1.cmpInt, show (15 * if z < 0 then -z else z) * 2 ^ 0 = 15 * (z.natAbs : Int) by split <;> omega, show compare (15 * (z.natAbs : Int)) (15 * (z.natAbs : Int)) = Ordering.eq from Int.compare_eq_eq.mpr rfl, show ((some Ordering.eq != some Ordering.eq) = false) from rfl]
    repeat walk_at "go"
    rename Fr _ _ _ _ => F9
    rename News _ _ _ _ => N9
    exact hQ _ _ _ F9 (ntl N9)
end
end Mine
namespace Mine
open PySem PySem.W PySem.Spec PySem.Calls PyProof.Rows
theorem fill_ST10 : (fun (_ : OpenLaw) => hd.heap_39) PySem.Challenge.rw_nb0043_01 = hd.heap_39 := by
  k_fill
  rfl
local macro_rules | `(tactic| walk_at "go") => `(tactic| first | (k_unfold; (try dsimp only)) | ((with_reducible show wpAny _ _ _ _ _ _); first | walk1 | (dsimp only; walk1)) | ((with_reducible show Frag.In _ _ ∧ _); refine ⟨by k_in, ?_⟩; try dsimp only [List.nil_append, List.cons_append]) | (refine PySem.W.ite_neg Bool.false_ne_true ?_) | (refine PySem.W.ite_pos rfl ?_) | (refine PySem.W.ite_neg (by simp only [decide_eq_true_eq, beq_iff_eq]; omega) ?_) | (refine PySem.W.ite_pos (by simp only [decide_eq_true_eq, beq_iff_eq]; omega) ?_))
section
variable {prog : Program} {w : World} {E : Value → Shared → Prop} {s : Shared} {mg mb : Str → Option Value} {p : Program} {loose : List Str} {mean : ExcName → Option Value} {Q : Flow → Shared → Prop} {h₀ : Heap} {L a : Addr} {cd : Value} {m : Str → Option Value} {news : List (Addr × Obj)}
set_option maxHeartbeats 4000000 in
theorem st10 {sc : Addr} {vs : List Value} {ns : List Int} {v1 v2 v3 : Option Value} (S : Lw h₀ L s.heap m v1 v2 v3 news) (X : (hd.heap_39 w.params).In h₀) (T : Top p loose mean mg mb h₀)
    (hm : m (Str.ofString "script") = some (.ref sc)) (hl : h₀.IsList sc vs.toArray) (hI : IntsAre vs ns) (hlen : ns.length ≤ 63)
    (hQ : ∀ h' tk m', Lw h₀ L h' m' v1 v2 v3 news → Q .next { s with heap := h', toks := tk }) :
    wpAny (model prog w) (lawA w.params L a cd) (exec (stm w.params 10) (lawEnv w.params L a cd)) Q E s := by
  obtain ⟨e1, e2⟩ := law_is (P := w.params) (by k_is)
  unfold stm lawA lawEnv
  rw [e1, e2]
  show wpAny _ _ (exec (Stmt.For _ _ _ _ _) _) _ _ _
  clear e1 e2
  have P := S.plain
  obtain ⟨F, ⟨o1, o2, o3, d1, d2, d3, N⟩, _⟩ := S
  have F9 := fr_over [(Str.ofString "script", .ref sc)] F ⟨hm, trivial⟩
  clear F hm
  refine for_rule (h₀ := h₀) rfl rfl ?_
  repeat (fail_if_success (with_reducible show wpAny _ _ (eval (Expr.ListComp _ _ _ _) _) _ _ _)); walk_at "go"
  refine lcomp (fun i v y own => own = [] ∧ ∃ z u, y = .int z u ∧ z.natAbs < 16 ^ 9) rfl rfl (by decide) (by decide) rfl ?_
  repeat (fail_if_success (with_reducible show wpAny _ _ (subscriptTail _ _ _ _) _ _ _)); walk_at "go"
  have hlv := hI.length
  refine slice_list (s := ⟨_, _, _, _, _⟩) F9 N (isList_kp hl F9.keep) IsPart.none (IsPart.int _ _) ?_ (by with_unfolding_all rfl) (by intro _; with_unfolding_all rfl) (by rw [sizeLine_eq]; simp; omega)
  intro h6 F6 N6
  clear F9 N
  have hI9 := slice_ints_uptoW hI (show (0 : Int) ≤ 5 by decide)
  have hlst := N6.isList (List.Mem.head _)
  rw [show slicePick vs.toArray none (some 5) none = (slicePick vs.toArray none (some 5) none).toList.toArray from (Array.toArray_toList).symm] at hlst
  rw [show (5 : Int).toNat = 5 from rfl] at hI9
  have hlen9 := hI9.length
  have hdl : (ns.take 5).length ≤ 5 := by simp; omega
  refine ⟨_, _, iter_list rfl hlst (by omega), ?body, ?done⟩
  case body =>
    intro C i v h2 tk2 m2 E2 hC hi hP hn2 hm2 hk2
    obtain ⟨u9, hu9⟩ := ints_num hI9 i v (by simpa using hP)
    subst hu9
    refine IfExp_ ?_
    repeat (fail_if_success (with_reducible show wpAny _ _ (eval (Expr.Name _ _) _) _ _ _)); walk_at "go"
    refine' n_builtin X (topRead_of T) (Kp.trans' F6.keep hk2) ?k3 ?k4 (by decide) ?_
    (case k3 => k_is)
    (case k4 => boot_by_name)
    repeat (fail_if_success (with_reducible show wpAny _ _ (eval (Expr.Name _ _) _) _ _ _)); walk_at "go"
    refine n_local hn2 hm2 ?_
    repeat (fail_if_success (with_reducible show wpAny _ _ (call (Value.builtin "abs") _) _ _ _)); walk_at "go"
    refine call_abs_int fun u3 tk3 => ?_
    repeat (fail_if_success (with_reducible show wpAny _ _ (binaryOp Operator.Pow _ _) _ _ _)); walk_at "go"
    refine pow16 (k := 9) (by decide) ?_
    repeat walk_at "go"
    by_cases hlt : (if (ns.take 5).getD i 0 < 0 then -(ns.take 5).getD i 0 else (ns.take 5).getD i 0) < 16 ^ 9
    · refine PySem.W.ite_pos (by simp only [decide_eq_true_eq]; exact hlt) ?_
      refine n_local hn2 hm2 ?_
      refine ⟨_, _, [], rfl, Kp.refl _, ⟨rfl, _, _, rfl, ?_⟩, Made.nil⟩
      split at hlt <;> omega
    · refine PySem.W.ite_neg (by simp only [decide_eq_true_eq]; exact hlt) ?_
      refine wpAny_BinOp (n_local hn2 hm2 (wpAny_BinOp (wpAny_Constant_int (wpAny_Constant_int (pow16 (k := 9) (by decide) (mod_int (by decide) ?_))))))
      refine ⟨_, _, [], rfl, Kp.refl _, ⟨rfl, _, _, rfl, ?_⟩, Made.nil⟩
      have h1 := Int.fmod_nonneg_of_pos ((ns.take 5).getD i 0) (show (0 : Int) < 16 ^ 9 by decide)
      have h2 := Int.fmod_lt_of_pos ((ns.take 5).getD i 0) (show (0 : Int) < 16 ^ 9 by decide)
      omega
  case done =>
    intro D h3 tk3 ys owns hD hpl hrow hoff hk3
    obtain ⟨c3, hc3⟩ := hpl
    have F3 := F6.after hk3
    have N3 := news_add F6 N6 hk3 hD hc3
    obtain ⟨zs, hI3, hz3⟩ := ints_ex (fun z => z.natAbs < 16 ^ 9) ys fun j hj => by
      obtain ⟨_, _, _, z, u, e, hz⟩ := hrow.rel j (by rw [← hrow.len]; exact hj)
      exact ⟨z, u, e, hz⟩
    have hyl : ys.length ≤ 5 := by rw [hrow.len, hlen9]; exact hdl
    clear F6 N6 hrow hoff hlst
    repeat (fail_if_success (with_reducible show wpAny _ _ (binaryOp _ _ _) _ _ _)); walk_at "go"
    rename Fr _ _ _ _ => F9
    rename News _ _ _ _ => N9
    have hl1 := N9.isList (List.Mem.tail _ (List.Mem.head _))
    have hl2 := N9.isList (List.Mem.head _)
    have hlen3 := hI3.length
    refine add_arrays F9 N9 hl1 hl2 ?_ (by rw [sizeLine_eq]; simp; omega)
    intro h9 F8 N8
    clear F9 N9 hl1 hl2
    have hl8 := N8.isList (List.Mem.head _)
    have hI8 := ints_append hI3 (IntsAre.cons (-4096) (tk3 + 1) (IntsAre.cons 0 (tk3 + 1 + 1) IntsAre.nil))
    have hz8 : ∀ z ∈ zs ++ [-4096, 0], z.natAbs < 16 ^ 9 := fun z hz => by
      rcases List.mem_append.mp hz with h | h
      · exact hz3 z h
      · have : ∀ z ∈ ([-4096, 0] : List Int), z.natAbs < 16 ^ 9 := by decide
        exact this z h
    have hl8' : h9.IsList _ (ys ++ [Value.int (-4096) (tk3 + 1), Value.int 0 (tk3 + 1 + 1)]).toArray := hl8
    have hlen8 := hI8.length
    have hlen8' : (ys ++ [Value.int (-4096) (tk3 + 1), Value.int 0 (tk3 + 1 + 1)]).length ≤ 7 := by simp; omega
    have N9 : News h₀ L h9 ((L + 1 + 1 + 1, o3) :: (L + 1 + 1, o2) :: (L + 1, o1) :: news) := nw N8 (by k_mem) (nw N8 (by k_mem) (nw N8 (by k_mem) (ntl (ntl (ntl (ntl (ntl (ntl (ntl N8)))))))))
    clear hl8
    refine ⟨_, _, _, _, fun _ _ => True, iter_list rfl hl8' (by omega), F8, N9, trivial, ?turn, ?fin⟩
    case turn =>
      intro kept' i v h2 tk2 m2 E2 hi hP _ F2 N2
      obtain ⟨u9, hu9⟩ := ints_num hI8 i v (by simpa using hP)
      subst hu9
      refine turn10 F2 N2 X T (if_pos rfl) (hz8 _ ?_) fun h' tk m' F' N' => ⟨rfl, _, _, _, rfl, F', N', trivial⟩
      rw [getD_get _ _ (by rw [← hlen8]; exact hi)]
      exact List.getElem_mem _
    case fin =>
      intro h' tk m' _ F' N'
      exact hQ _ _ _ ⟨F', ⟨o1, o2, o3, d1, d2, d3, N'⟩, P⟩
end
end Mine
namespace Mine
open PySem PySem.W PySem.Spec PySem.Calls PyProof.Rows
theorem fill_ST11 : (fun (_ : OpenLaw) => hd.heap_39) PySem.Challenge.rw_nb0043_01 = hd.heap_39 := by
  k_fill
  rfl
local macro_rules | `(tactic| walk_at "go") => `(tactic| first | (k_unfold; (try dsimp only)) | ((with_reducible show wpAny _ _ _ _ _ _); first | walk1 | (dsimp only; walk1)) | ((with_reducible show Frag.In _ _ ∧ _); refine ⟨by k_in, ?_⟩; try dsimp only [List.nil_append, List.cons_append]) | (refine PySem.W.ite_neg Bool.false_ne_true ?_) | (refine PySem.W.ite_pos rfl ?_) | (refine PySem.W.ite_neg (by simp only [decide_eq_true_eq, beq_iff_eq]; omega) ?_) | (refine PySem.W.ite_pos (by simp only [decide_eq_true_eq, beq_iff_eq]; omega) ?_))
section
variable {prog : Program} {w : World} {E : Value → Shared → Prop} {s : Shared} {mg mb : Str → Option Value} {p : Program} {loose : List Str} {mean : ExcName → Option Value} {Q : Flow → Shared → Prop} {h₀ : Heap} {L a : Addr} {cd : Value} {m : Str → Option Value} {news : List (Addr × Obj)}
set_option maxHeartbeats 4000000 in
theorem st11 {v1 v3 : Option Value} {W : Nat} {t : Tok} (S : Lw h₀ L s.heap m v1 (some (.int (W : Nat) t)) v3 news) (X : (hd.heap_39 w.params).In h₀) (T : Top p loose mean mg mb h₀) (hW : W ≤ 8)
    (hQ : ∀ h' tk m' D ws c, m' (Str.ofString "weights") = some (.ref D) → IntsAre ws (worths W) → Lw h₀ L h' m' v1 (some (.int (W : Nat) t)) v3 ((D, lst ws c) :: news) → Q .next { s with heap := h', toks := tk }) :
    wpAny (model prog w) (lawA w.params L a cd) (exec (stm w.params 11) (lawEnv w.params L a cd)) Q E s := by
  obtain ⟨e1, e2⟩ := law_is (P := w.params) (by k_is)
  unfold stm lawA lawEnv
  rw [e1, e2]
  show wpAny _ _ (exec (Stmt.Assign _ _ _) _) _ _ _
  clear e1 e2
  have c2 := S.c2
  have P := S.plain
  obtain ⟨F, ⟨o1, o2, o3, d1, d2, d3, N⟩, _⟩ := S
  repeat (fail_if_success (with_reducible show wpAny _ _ (eval (Expr.Name (Str.ofString "wide") _) _) _ _ _)); walk_at "go"
  refine n_cell rfl c2 ?_
  repeat (fail_if_success (with_reducible show wpAny _ _ (call (Value.ref 82) _) _ _ _)); walk_at "go"
  rename Fr _ _ _ _ => F9
  rename News _ _ _ _ => N9
  refine' worths_call ?x1 ?x2 ?e1 ?e2 ?e4 ?e3
  (case x1 => exact X.keeps F9.keep)
  (case x2 => exact topRead_of (T.keeps F9.keep))
  (case e1 => exact rfl)
  (case e2 => exact Nat.lt_of_le_of_lt (Nat.le_add_right _ 5) (law_room _))
  (case e4 => omega)
  intro D ws h7 tk7 k7 hD7 hpl7 hI7
  obtain ⟨c7, hc7⟩ := hpl7
  replace N9 := news_add F9 N9 k7 hD7 hc7
  replace F9 := F9.after k7
  repeat walk_at "go"
  rename Fr _ _ _ _ => F9
  rename News _ _ _ _ => N9
  have S9 : Lw h₀ L _ _ v1 (some (.int (W : Nat) t)) v3 ((D, lst ws c7) :: news) := ⟨F9, ⟨o1, o2, o3, d1, d2, d3, nw N9 (by k_mem) (nw N9 (by k_mem) (nw N9 (by k_mem) (nw N9 (List.Mem.head _) (ntl (ntl (ntl (ntl N9)))))))⟩, P.cons fun _ e => nomatch e⟩
  exact hQ _ _ _ D ws c7 rfl hI7 S9
set_option maxHeartbeats 4000000 in
theorem st12 {R : Addr} {ys : List Value} {v1 v2 : Option Value} {c c0 : Nat} {r0 : Addr} {vs0 : List Value} {ns0 : List Int} (S : Lw h₀ L s.heap m v1 v2 (some (.ref R)) news) (X : (hd.heap_39 w.params).In h₀) (T : Top p loose mean mg mb h₀)
    (hR : (R, lst ys c) ∈ news) (hy0 : ys[0]? = some (.ref r0)) (h0 : (r0, lst vs0 c0) ∈ news) (hI : IntsAre vs0 ns0) (hlen : ns0.length ≤ 8)
    (hQ : ∀ h' tk m' D c' t', m' (Str.ofString "data") = some (.ref D) → (∀ x, x ≠ Str.ofString "data" → m' x = m x) → Lw h₀ L h' m' v1 v2 (some (.ref R)) ((D, lst (vs0 ++ [Value.int 0 t']) c') :: news) → Q .next { s with heap := h', toks := tk }) :
    wpAny (model prog w) (lawA w.params L a cd) (exec (stm w.params 12) (lawEnv w.params L a cd)) Q E s := by
  obtain ⟨e1, e2⟩ := law_is (P := w.params) (by k_is)
  unfold stm lawA lawEnv
  rw [e1, e2]
  show wpAny _ _ (exec (Stmt.Assign _ _ _) _) _ _ _
  clear e1 e2
  have c3 := S.c3
  have P := S.plain
  have hvl := hI.length
  have hLR := S.nws.isList hR
  have hL0 := S.nws.isList h0
  obtain ⟨F, ⟨o1, o2, o3, d1, d2, d3, N⟩, _⟩ := S
  repeat (fail_if_success (with_reducible show wpAny _ _ (eval (Expr.Name (Str.ofString "rows") _) _) _ _ _)); walk_at "go"
  refine n_cell rfl c3 ?_
  repeat (fail_if_success (with_reducible show wpAny _ _ (subscriptTail _ _ _ _) _ _ _)); walk_at "go"
  refine subscriptTail_builtin hLR.typeIs list_getitem_lookup (wpAny_getItem_list hLR (by decide) (by decide) (by simpa using hy0) ?_) (by with_unfolding_all rfl) (by intro _; with_unfolding_all rfl)
  repeat (fail_if_success (with_reducible show wpAny _ _ (newList _) _ _ _)); walk_at "go"
  refine list_at ?_ (by rw [sizeLine_eq]; simp)
  intro D3 h3 k3 hD3 hd3
  replace N := news_add F N k3 hD3 hd3
  replace F := F.after k3
  repeat (fail_if_success (with_reducible show wpAny _ _ (binaryOp _ _ _) _ _ _)); walk_at "go"
  refine add_at (isList_kp hL0 k3) (isList_of hd3) ?_ (by rw [sizeLine_eq]; simp; omega)
  intro D4 h4 k4 hD4 hd4
  replace N := news_add F N k4 hD4 hd4
  replace F := F.after k4
  repeat walk_at "go"
  rename Fr _ _ _ _ => F9
  rename News _ _ _ _ => N9
  have S9 : Lw h₀ L _ _ v1 v2 (some (.ref R)) (_ :: news) := ⟨F9, ⟨o1, o2, o3, d1, d2, d3, nw N9 (by k_mem) (nw N9 (by k_mem) (nw N9 (by k_mem) (nw N9 (List.Mem.head _) (ntl (ntl (ntl (ntl (ntl N9))))))))⟩, P.cons fun _ e => nomatch e⟩
  exact hQ _ _ _ D4 _ _ (if_pos rfl) (fun x hx => if_neg hx) S9
end
end Mine
namespace Mine
open PySem PySem.W PySem.Spec PySem.Calls PyProof.Rows
theorem fill_ST13 : (fun (_ : OpenLaw) => hd.heap_39) PySem.Challenge.rw_nb0043_01 = hd.heap_39 := by
  k_fill
  rfl
local macro_rules | `(tactic| walk_at "go") => `(tactic| first | (k_unfold; (try dsimp only)) | ((with_reducible show wpAny _ _ _ _ _ _); first | walk1 | (dsimp only; walk1)) | ((with_reducible show Frag.In _ _ ∧ _); refine ⟨by k_in, ?_⟩; try dsimp only [List.nil_append, List.cons_append]) | (refine PySem.W.ite_neg Bool.false_ne_true ?_) | (refine PySem.W.ite_pos rfl ?_) | (refine PySem.W.ite_neg (by simp only [decide_eq_true_eq, beq_iff_eq]; omega) ?_) | (refine PySem.W.ite_pos (by simp only [decide_eq_true_eq, beq_iff_eq]; omega) ?_))
section
variable {prog : Program} {w : World} {E : Value → Shared → Prop} {s : Shared} {mg mb : Str → Option Value} {p : Program} {loose : List Str} {mean : ExcName → Option Value} {Q : Flow → Shared → Prop} {h₀ : Heap} {L a : Addr} {cd : Value} {m : Str → Option Value} {news : List (Addr × Obj)}
set_option maxHeartbeats 4000000 in
theorem st13 {A₀ : Around} {base : Heap} {Dd Dw : Addr} {v1 v2 v3 : Option Value} {W c1 c2 : Nat} {t : Tok} {vs0 ws : List Value} {ns0 : List Int} (S : Lw h₀ L s.heap m v1 v2 v3 news) (B : Below A₀ base [] h₀) (Xb : (hd.heap_39 w.params).In base) (Tb : Top p loose mean mg mb base) (X : (hd.heap_39 w.params).In h₀) (T : Top p loose mean mg mb h₀)
    (hmd : m (Str.ofString "data") = some (.ref Dd)) (hmw : m (Str.ofString "weights") = some (.ref Dw)) (hd1 : (Dd, lst (vs0 ++ [Value.int 0 t]) c1) ∈ news) (hw1 : (Dw, lst ws c2) ∈ news)
    (hI : IntsAre vs0 ns0) (hlen : ns0.length = W) (hdig : ∀ n ∈ ns0, 0 ≤ n ∧ n ≤ 15) (hW : W ≤ 8) (hJ : IntsAre ws (worths W))
    (hQ : ∀ h' tk, Lw h₀ L h' m v1 v2 v3 news → Q .next { s with heap := h', toks := tk }) :
    wpAny (model prog w) (lawA w.params L a cd) (exec (stm w.params 13) (lawEnv w.params L a cd)) Q E s := by
  obtain ⟨e1, e2⟩ := law_is (P := w.params) (by k_is)
  unfold stm lawA lawEnv
  rw [e1, e2]
  show wpAny _ _ (exec (Stmt.If _ _ _ _) _) _ _ _
  clear e1 e2
  have P := S.plain
  have hvl := hI.length
  obtain ⟨i1, i2⟩ := intAt_worths hJ
  have hf : ∀ j, j < W → -64 ≤ ns0.getD j 0 ∧ ns0.getD j 0 ≤ 64 := fun j hj => by
    have hj' : j < ns0.length := by omega
    have := hdig _ (List.getElem_mem hj')
    rw [getD_get _ _ hj']
    omega
  have ok := dot_ok (fun j => ns0.getD j 0) W (by omega) hf
  have hx := intAt_snoc t hI
  rw [hvl, hlen] at hx
  have hlD := S.nws.isList hd1
  have hlW := S.nws.isList hw1
  obtain ⟨F, ⟨o1, o2, o3, d1, d2, d3, N⟩, _⟩ := S
  have em := over_eq (l := [(Str.ofString "data", .ref Dd), (Str.ofString "weights", .ref Dw)]) (m := m) ⟨hmd, hmw, trivial⟩
  have F9 := fr_over [(Str.ofString "data", .ref Dd), (Str.ofString "weights", .ref Dw)] F ⟨hmd, hmw, trivial⟩
  clear F
  repeat (fail_if_success (with_reducible show wpAny _ _ (subscriptTail _ _ _ _) _ _ _)); walk_at "go"
  refine slice_at (s := ⟨_, _, _, _, _⟩) hlW IsPart.none (IsPart.int _ _) IsPart.none (by decide) ?_ (by with_unfolding_all rfl) (by intro _; with_unfolding_all rfl) (by rw [sizeLine_eq]; simp; omega)
  intro D3 h3 k3 hD3 hd3
  rw [but_last] at hd3
  have F3 := F9.after k3
  have N3 := news_add F9 N k3 hD3 hd3
  clear F9 N
  repeat (fail_if_success (with_reducible show wpAny _ _ (call (Value.ref 108) _) _ _ _)); walk_at "go"
  rename Fr _ _ _ _ => F9
  rename News _ _ _ _ => N9
  have e3 : (ws.toArray.toList.take (ws.toArray.size - 1)) = ws.take W := by rw [List.size_toArray, i2]; rfl
  rw [e3] at N9
  rw [lawA_eq]
  refine' refused_unlike B F9 Xb Tb rfl ?q1 ?q2 ?q3 ?q4 ?q7 ?q5 ?q6 ok ?_
  (case q1 => exact law_room _)
  (case q2 => exact law_units _)
  (case q3 => exact isList_kp hlD k3)
  (case q4 => exact N9.isList (.head _))
  (case q7 => exact fun i hi => hx i (by omega))
  (case q5 => exact intAt_take i1 W (by omega))
  (case q6 => exact .inr ⟨by simp; omega, by simp; omega⟩)
  intro h4 tk4 k4 u4
  replace N9 := news_but N9 k4
  replace F9 := fr_but F9 k4 (u4.ns F9.ns)
  rw [← lawA_eq]
  repeat (fail_if_success (with_reducible show wpAny _ _ (subscriptTail _ _ _ _) _ _ _)); walk_at "go"
  rename Fr _ _ _ _ => F9
  rename News _ _ _ _ => N9
  have hlD4 := N9.isList (.tail _ (.tail _ (.tail _ (.tail _ hd1))))
  refine slice_at (s := ⟨_, _, _, _, _⟩) hlD4 IsPart.none (IsPart.int _ _) IsPart.none (by decide) ?_ (by with_unfolding_all rfl) (by intro _; with_unfolding_all rfl) (by rw [sizeLine_eq]; simp; omega)
  intro D5 h5 k5 hD5 hd5
  rw [but_last] at hd5
  have F5 := F9.after k5
  have N5 := news_add F9 N9 k5 hD5 hd5
  clear F9 N9
  repeat (fail_if_success (with_reducible show wpAny _ _ (call (Value.ref 108) _) _ _ _)); walk_at "go"
  rename Fr _ _ _ _ => F9
  rename News _ _ _ _ => N9
  have e5 : ((vs0 ++ [Value.int 0 t]).toArray.toList.take ((vs0 ++ [Value.int 0 t]).toArray.size - 1)) = (vs0 ++ [Value.int 0 t]).take W := by rw [List.size_toArray, List.length_append, hvl, hlen]; rfl
  rw [e5] at N9
  rw [lawA_eq]
  refine' refused_unlike B F9 Xb Tb rfl ?q1 ?q2 ?q3 ?q4 ?q7 ?q5 ?q6 ok ?_
  (case q1 => exact law_room _)
  (case q2 => exact law_units _)
  (case q3 => exact N9.isList (.head _))
  (case q4 => exact N9.isList (.tail _ (.tail _ (.tail _ (.tail _ (.tail _ hw1))))))
  (case q7 => exact intAt_take hx W (by omega))
  (case q5 => exact fun i hi => i1 i (by omega))
  (case q6 => exact .inl ⟨by simp; omega, by simp; omega⟩)
  intro h6 tk6 k6 u6
  replace N9 := news_but N9 k6
  replace F9 := fr_but F9 k6 (u6.ns F9.ns)
  rw [← lawA_eq]
  repeat walk_at "go"
  rename Fr _ _ _ _ => F9
  rename News _ _ _ _ => N9
  rw [em] at F9
  have S9 : Lw h₀ L _ m v1 v2 v3 news := ⟨F9, ⟨o1, o2, o3, d1, d2, d3, ntl (ntl N9)⟩, P⟩
  exact hQ _ _ S9
end
end Mine
namespace Mine
open PySem PySem.W PySem.Spec PySem.Calls PyProof.Rows
theorem fill_ST14 : (fun (_ : OpenLaw) => hd.heap_39) PySem.Challenge.rw_nb0043_01 = hd.heap_39 := by
  k_fill
  rfl
local macro_rules | `(tactic| walk_at "go") => `(tactic| first | (k_unfold; (try dsimp only)) | ((with_reducible show wpAny _ _ _ _ _ _); first | walk1 | (dsimp only; walk1)) | ((with_reducible show Frag.In _ _ ∧ _); refine ⟨by k_in, ?_⟩; try dsimp only [List.nil_append, List.cons_append]) | (refine PySem.W.ite_neg Bool.false_ne_true ?_) | (refine PySem.W.ite_pos rfl ?_) | (refine PySem.W.ite_neg (by simp only [decide_eq_true_eq, beq_iff_eq]; omega) ?_) | (refine PySem.W.ite_pos (by simp only [decide_eq_true_eq, beq_iff_eq]; omega) ?_))
section
variable {prog : Program} {w : World} {E : Value → Shared → Prop} {s : Shared} {mg mb : Str → Option Value} {p : Program} {loose : List Str} {mean : ExcName → Option Value} {Q : Flow → Shared → Prop} {h₀ : Heap} {L a : Addr} {cd : Value} {m : Str → Option Value} {news : List (Addr × Obj)}
set_option maxHeartbeats 4000000 in
theorem st14 {A₀ : Around} {base : Heap} {Dd Dw : Addr} {v1 v3 : Option Value} {W c1 c2 : Nat} {t tw : Tok} {vs0 ws : List Value} {ns0 : List Int} (S : Lw h₀ L s.heap m v1 (some (.int (W : Nat) tw)) v3 news) (B : Below A₀ base [] h₀) (Xb : (hd.heap_39 w.params).In base) (Tb : Top p loose mean mg mb base) (X : (hd.heap_39 w.params).In h₀) (T : Top p loose mean mg mb h₀)
    (hmd : m (Str.ofString "data") = some (.ref Dd)) (hmw : m (Str.ofString "weights") = some (.ref Dw)) (hd1 : (Dd, lst (vs0 ++ [Value.int 0 t]) c1) ∈ news) (hw1 : (Dw, lst ws c2) ∈ news)
    (hI : IntsAre vs0 ns0) (hlen : ns0.length = W) (hdig : ∀ n ∈ ns0, 0 ≤ n ∧ n ≤ 15) (hW : W ≤ 8) (hJ : IntsAre ws (worths W))
    (hQ : ∀ h' tk, Lw h₀ L h' m v1 (some (.int (W : Nat) tw)) v3 news → Q (.ret (.bool true)) { s with heap := h', toks := tk }) :
    wpAny (model prog w) (lawA w.params L a cd) (exec (stm w.params 14) (lawEnv w.params L a cd)) Q E s := by
  obtain ⟨e1, e2⟩ := law_is (P := w.params) (by k_is)
  unfold stm lawA lawEnv
  rw [e1, e2]
  show wpAny _ _ (exec (Stmt.Return _ _) _) _ _ _
  clear e1 e2
  have P := S.plain
  have hvl := hI.length
  obtain ⟨i1, i2⟩ := intAt_worths hJ
  have hf : ∀ j, j < W → -64 ≤ ns0.getD j 0 ∧ ns0.getD j 0 ≤ 64 := fun j hj => by
    have hj' : j < ns0.length := by omega
    have := hdig _ (List.getElem_mem hj')
    rw [getD_get _ _ hj']
    omega
  have c2 := S.c2
  obtain ⟨z1, z2, z3, z4⟩ := zw_facts ⟨W, by omega⟩
  dsimp only at z1 z2 z3 z4
  have hlD := S.nws.isList hd1
  have hlW := S.nws.isList hw1
  obtain ⟨F, ⟨o1, o2, o3, d1, d2, d3, N⟩, _⟩ := S
  have em := over_eq (l := [(Str.ofString "data", .ref Dd), (Str.ofString "weights", .ref Dw)]) (m := m) ⟨hmd, hmw, trivial⟩
  have F9 := fr_over [(Str.ofString "data", .ref Dd), (Str.ofString "weights", .ref Dw)] F ⟨hmd, hmw, trivial⟩
  clear F
  repeat (fail_if_success (with_reducible show wpAny _ _ (subscriptTail _ _ _ _) _ _ _)); walk_at "go"
  refine slice_at (s := ⟨_, _, _, _, _⟩) hlW IsPart.none (IsPart.int _ _) IsPart.none (by decide) ?_ (by with_unfolding_all rfl) (by intro _; with_unfolding_all rfl) (by rw [sizeLine_eq]; simp; omega)
  intro D3 h3 k3 hD3 hd3
  rw [but_last] at hd3
  have e3 : (ws.toArray.toList.take (ws.toArray.size - 1)) = ws.take W := by rw [List.size_toArray, i2]; rfl
  rw [e3] at hd3
  have F3 := F9.after k3
  have N3 := news_add F9 N k3 hD3 hd3
  clear F9 N
  repeat (fail_if_success (with_reducible show wpAny _ _ (eval (Expr.Name (Str.ofString "wide") _) _) _ _ _)); walk_at "go"
  refine n_cell rfl (isCell_at c2 fun o e => k3 _ o e) ?_
  refine pow16 (by omega) ?_
  repeat (fail_if_success (with_reducible show wpAny _ _ (newList _) _ _ _)); walk_at "go"
  rename Fr _ _ _ _ => F9
  rename News _ _ _ _ => N9
  refine list_at ?_ (by rw [sizeLine_eq]; simp)
  intro D4 h4 k4 hD4 hd4
  replace N9 := news_add F9 N9 k4 hD4 hd4
  replace F9 := F9.after k4
  repeat (fail_if_success (with_reducible show wpAny _ _ (binaryOp Operator.Add _ _) _ _ _)); walk_at "go"
  rename Fr _ _ _ _ => F9
  rename News _ _ _ _ => N9
  refine add_at (N9.isList (.tail _ (.head _))) (isList_of hd4) ?_ (by rw [sizeLine_eq]; simp; omega)
  intro D5 h5 k5 hD5 hd5
  replace N9 := news_add F9 N9 k5 hD5 hd5
  replace F9 := F9.after k5
  repeat (fail_if_success (with_reducible show wpAny _ _ (call (Value.ref 108) _) _ _ _)); walk_at "go"
  rename Fr _ _ _ _ => F9
  rename News _ _ _ _ => N9
  have hJ5 := ints_append (hJ.take W) (IntsAre.cons (1 - 16 ^ W) (s.toks + 1 + 1 + 1 + 1 + 1) IntsAre.nil)
  have hl5 := N9.isList (.head _)
  have hlD5 := N9.isList (.tail _ (.tail _ (.tail _ (.tail _ (.tail _ (.tail _ hd1))))))
  rw [lawA_eq]
  refine' refused_zero (ns := zw W) B F9 Xb Tb rfl ?q1 ?q2 ?q3 ?q4 ?q5 ?q6 ?q7 z3 z1 ?_
  (case q1 => exact law_room _)
  (case q2 => exact law_units _)
  (case q3 => exact hlD5)
  (case q4 => exact hl5)
  (case q5 => exact hJ5)
  (case q6 => exact sum_zero hI hlen hW hf hJ5 hlD5 hl5)
  (case q7 => exact fun i hi => z2 ⟨i, by omega⟩)
  intro h6 tk6 k6 u6
  replace N9 := news_but N9 k6
  replace F9 := fr_but F9 k6 (u6.ns F9.ns)
  rw [← lawA_eq]
  repeat (fail_if_success (with_reducible show wpAny _ _ (newList _) _ _ _)); walk_at "go"
  rename Fr _ _ _ _ => F9
  rename News _ _ _ _ => N9
  refine list_at ?_ (by rw [sizeLine_eq]; simp)
  intro D7 h7 k7 hD7 hd7
  replace N9 := news_add F9 N9 k7 hD7 hd7
  replace F9 := F9.after k7
  repeat (fail_if_success (with_reducible show wpAny _ _ (call (Value.ref 108) _) _ _ _)); walk_at "go"
  rename Fr _ _ _ _ => F9
  rename News _ _ _ _ => N9
  rw [lawA_eq]
  refine' refused_none B F9 Xb Tb rfl ?q1 ?q2 ?q3 ?_
  (case q1 => exact law_room _)
  (case q2 => exact law_units _)
  (case q3 => exact N9.isList (.head _))
  intro h8 tk8 k8 u8
  replace N9 := news_but N9 k8
  replace F9 := fr_but F9 k8 (u8.ns F9.ns)
  repeat walk_at "go"
  rename Fr _ _ _ _ => F9
  rename News _ _ _ _ => N9
  rw [em] at F9
  have S9 : Lw h₀ L _ m v1 (some (.int (W : Nat) tw)) v3 news := ⟨F9, ⟨o1, o2, o3, d1, d2, d3, ntl (ntl (ntl (ntl N9)))⟩, P⟩
  exact hQ _ _ S9
end
end Mine
namespace Mine
open PySem PySem.W PySem.Spec PySem.Calls PyProof.Rows
theorem fill_LA : (fun (_ : OpenLaw) => hd.heap_39) PySem.Challenge.rw_nb0043_01 = hd.heap_39 := by
  k_fill
  rfl
/-- all of law's statements, one behind the other -/
theorem body_is (P : Params) : lawBody P = [stm P 0, stm P 1, stm P 2, stm P 3, stm P 4, stm P 5, stm P 6, stm P 7, stm P 8, stm P 9, stm P 10, stm P 11, stm P 12, stm P 13, stm P 14] := by
  obtain ⟨e1, e2⟩ := law_is (P := P) (by k_is)
  unfold stm
  rw [e1]
  rfl
theorem told_mono {m m' : Str → Option Value} {y : Str} (h : ∀ x, x ≠ y → m' x = m x) : ∀ {l : List (Str × Value)}, (l.map (·.1)).all (fun x => decide (x ≠ y)) = true → Told m l → Told m' l
  | [], _, _ => trivial
  | q :: r, hl, ht => by
    rw [List.map_cons, List.all_cons, Bool.and_eq_true, decide_eq_true_eq] at hl
    exact ⟨by rw [h _ hl.1]; exact ht.1, told_mono h hl.2 ht.2⟩
section
variable {prog : Program} {w : World} {E : Value → Shared → Prop} {s : Shared} {mg mb : Str → Option Value} {p : Program} {loose : List Str} {mean : ExcName → Option Value} {Q : Flow → Shared → Prop} {h₀ : Heap} {L a : Addr} {cd : Value} {m : Str → Option Value} {news : List (Addr × Obj)}
set_option maxHeartbeats 4000000 in
theorem law_runs {A₀ : Around} {base : Heap} {sc : Addr} {vs : List Value} {ns : List Int} {v1 v2 v3 : Option Value} (S : Lw h₀ L s.heap m v1 v2 v3 news) (B : Below A₀ base [] h₀) (Xb : (hd.heap_39 w.params).In base) (Tb : Top p loose mean mg mb base) (X : (hd.heap_39 w.params).In h₀) (T : Top p loose mean mg mb h₀)
    (hm : m (Str.ofString "script") = some (.ref sc)) (hl : h₀.IsList sc vs.toArray) (hI : IntsAre vs ns) (hlen : ns.length ≤ 63)
    (hQ : ∀ h' tk m' v1' v2' v3', Lw h₀ L h' m' v1' v2' v3' news → Q (.ret (.bool true)) { s with heap := h', toks := tk }) :
    wpAny (model prog w) (lawA w.params L a cd) (execs (lawBody w.params) (lawEnv w.params L a cd)) Q E s := by
  rw [body_is]
  obtain ⟨g1, g2, g3⟩ := figs_facts ns
  refine wpAny_execs_cons (st0 S hm hl hI hlen fun D0 h1 tk1 fv c0 S1 hI1 => ?_)
  (try dsimp only)
  refine wpAny_execs_cons (st1 S1 X T hI1 g1 fun h2 tk2 tw S2 => ?_)
  (try dsimp only)
  have hW : ((figs ns).length + 3) / 4 ≤ 8 ∧ 0 < ((figs ns).length + 3) / 4 := by omega
  generalize hWd : ((figs ns).length + 3) / 4 = W at S2 hW
  refine wpAny_execs_cons (st2 (W := W) S2 X T hI1 g1 g3 hWd.symm fun R3 h3 tk3 ys3 kept3 c3 l3 S3 r3 => ?_)
  (try dsimp only)
  refine wpAny_execs_cons (st3 S3 X T l3 r3 hW.1 fun R h4 tk4 ys kept c4 rw' l4 S4 r4 hrw => ?_)
  (try dsimp only)
  refine wpAny_execs_cons (st4 S4 X T l4 r4 hW.1 hrw fun h5 tk5 m5 hm5 S5 => ?_)
  (try dsimp only)
  refine wpAny_execs_cons (st5 S5 X T l4 r4 hW.1 hrw fun h6 tk6 t0 t1 t2 t3 m6 told6 sc6 S6 => ?_)
  (try dsimp only)
  refine wpAny_execs_cons (st6 S6 X T l4 r4 hW.1 hrw fun h7 tk7 m7 Dc zs cols c7 l7 ce7 mc7 mo7 S7 => ?_)
  (try dsimp only)
  have told7 : Told m7 ((Str.ofString "columns", .ref Dc) :: abcd rw' W t0 t1 t2 t3) := ⟨mc7, told_mono mo7 (by rfl) told6⟩
  refine wpAny_execs_cons (st7 S7 X T l7 ce7 hW.2 hW.1 hrw told7 fun h8 tk8 S8 => ?_)
  (try dsimp only)
  refine wpAny_execs_cons (st8 S8 X T l7 ce7 hW.1 hrw mc7 fun h9 tk9 m9 Dl fs c9 l9 fl9 ml9 mo9 S9 => ?_)
  (try dsimp only)
  have told9 : Told m9 ((Str.ofString "less", .ref Dl) :: abcd rw' W t0 t1 t2 t3) := ⟨ml9, told_mono mo9 (by rfl) told7.2⟩
  refine wpAny_execs_cons (st9 S9 X T l9 fl9 hW.2 hW.1 hrw told9 fun h10 tk10 S10 => ?_)
  (try dsimp only)
  have sc9 : m9 (Str.ofString "script") = some (.ref sc) := by rw [mo9 _ (by decide), mo7 _ (by decide), sc6, hm5 _ (by decide), hm]
  refine wpAny_execs_cons (st10 S10 X T sc9 hl hI hlen fun h11 tk11 m11 S11 => ?_)
  (try dsimp only)
  refine wpAny_execs_cons (st11 S11 X T hW.1 fun h12 tk12 m12 Dw ws c12 mw12 hJ12 S12 => ?_)
  (try dsimp only)
  obtain ⟨r0, c0', vs0, y0, mem0, hI0⟩ := r4 0 (by omega)
  have y0' : ys[0]? = some (.ref r0) := by
    rw [getD_get _ _ (show 0 < ys.length by omega)] at y0
    rw [List.getElem?_eq_getElem (show 0 < ys.length by omega), y0]
  refine wpAny_execs_cons (st12 S12 X T (.tail _ (.tail _ (.head _))) y0' (.tail _ (.tail _ (.tail _ (List.mem_append_left _ mem0)))) hI0 (by rw [(hrw 0).1]; exact hW.1) fun h13 tk13 m13 Dd c13 t13 md13 mo13 S13 => ?_)
  (try dsimp only)
  refine wpAny_execs_cons (st13 S13 B Xb Tb X T md13 (by rw [mo13 _ (by decide)]; exact mw12) (.head _) (.tail _ (.head _)) hI0 (hrw 0).1 (hrw 0).2 hW.1 hJ12 fun h14 tk14 S14 => ?_)
  (try dsimp only)
  refine wpAny_execs_cons (st14 S14 B Xb Tb X T md13 (by rw [mo13 _ (by decide)]; exact mw12) (.head _) (.tail _ (.head _)) hI0 (hrw 0).1 (hrw 0).2 hW.1 hJ12 fun h15 tk15 S15 => ?_)
  (try dsimp only)
  exact hQ _ _ _ _ _ _ (S15.sub fun p hp => .tail _ (.tail _ (.tail _ (.tail _ (List.mem_append_right _ (.tail _ hp))))))
end
end Mine
namespace Mine
open PySem PySem.W PySem.Spec PySem.Calls PyProof.Rows
set_option maxHeartbeats 8000000 in
theorem law_holds : PySem.Challenge.rw_nb0043_01.Holds := hd (by
  k_go0
  (with_reducible show wpAny _ _ _ _ _ _)
  k_fold
  rename Fr _ _ _ _ => FF
  rename News _ _ _ _ => NN
  rename Below _ _ _ _ => BB
  rename Frag.In _ _ => XX
  rename IntsAre _ _ => II
  rename Top _ _ _ _ _ _ => TT
  rename Heap.IsList _ _ _ => LL
  rename ¬ (_ < _) => HC
  have P0 : NoCell [((58 : Addr), tabObj #[])] := fun q hq v e => by
    rw [List.mem_singleton] at hq
    subst hq
    cases e
  have S0 : Lw _ _ _ _ _ _ _ _ := ⟨FF, ⟨_, _, _, by assumption, by assumption, by assumption, NN⟩, P0⟩
  clear FF NN
  refine law_runs S0 BB XX TT XX TT rfl LL II (by omega) fun h' tk m' v1' v2' v3' S9 => ?_
  have F9 := S9.fr
  have N9 := S9.nws
  clear S9 S0 P0
  (try dsimp only)
  show GoodW _ _ _ _ _ (Except.ok (Flow.ret (Value.bool true))) _ ∧ GrownAll _ _
  refine ⟨?_, ⟨⟨_, N9.get (List.Mem.head _)⟩, trivial⟩⟩
  wrow_close)
end Mine
theorem PySem.Challenge.cw_nb0043_01_holds : PySem.Challenge.rw_nb0043_01.Holds :=
  Mine.law_holds
