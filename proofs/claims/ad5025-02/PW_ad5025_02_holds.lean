import PyProof.Rows.All
import Wide.All
import OpenK.AllK
import Wide.FinOn
import PySem.Challenge.RW_ad5025_02
set_option Elab.async false
set_option rowWalk.seconds 0
set_option linter.all false
set_option maxRecDepth 100000
set_option maxHeartbeats 8000000

namespace Mine
open PySem PySem.W PyProof.Rows
open_top hd02 for PySem.Challenge.rw_ad5025_02
end Mine
namespace Mine
/-- open_top leaves the lines for a module's top switched on: off again -/
theorem top_off : True := by
  w_top off
  trivial
end Mine
namespace Mine
set_option exponentiation.threshold 3000
open PySem PySem.Float64

theorem rep {n k : Nat} (hn : n ≤ 2 ^ 53) (hk : 52 ≤ k) (hk2 : k ≤ 1074) : ∃ t, t < infMag ∧ V t = n * 2 ^ k := by
  have hi : infMag = 2047 * 2 ^ 52 := rfl
  by_cases h0 : n = 0
  · subst h0
    exact ⟨0, by omega, by rw [Nat.zero_mul]; rfl⟩
  have hl1 := Nat.log2_self_le h0
  have hl2 : n < 2 ^ (n.log2 + 1) := Nat.lt_log2_self
  generalize n.log2 = L at *
  by_cases hL : L ≤ 52
  · have e1 : n * 2 ^ (52 - L) < 2 ^ 53 := by
      calc n * 2 ^ (52 - L) < 2 ^ (L + 1) * 2 ^ (52 - L) := Nat.mul_lt_mul_of_pos_right hl2 (Nat.two_pow_pos _)
        _ = 2 ^ 53 := by rw [← Nat.pow_add]; congr 1; omega
    have e2 : 2 ^ 52 ≤ n * 2 ^ (52 - L) := by
      calc 2 ^ 52 = 2 ^ L * 2 ^ (52 - L) := by rw [← Nat.pow_add]; congr 1; omega
        _ ≤ n * 2 ^ (52 - L) := Nat.mul_le_mul_right _ hl1
    have hv := V_at (k := k - (52 - L)) (q := n * 2 ^ (52 - L)) (by omega) (.inl e2)
    refine ⟨(k - (52 - L)) * 2 ^ 52 + n * 2 ^ (52 - L), by omega, ?_⟩
    rw [hv, Nat.mul_assoc, ← Nat.pow_add]
    congr 2
    omega
  · have hv := V_at (k := k) (q := n) hn (.inl (by
      have : 2 ^ 52 ≤ 2 ^ L := Nat.pow_le_pow_right (by decide) (by omega)
      omega))
    exact ⟨k * 2 ^ 52 + n, by omega, hv⟩

theorem V_inj {t t' : Nat} (h : V t = V t') : t = t' := by
  rcases Nat.lt_trichotomy t t' with g | g | g
  · have := V_lt g; omega
  · exact g
  · have := V_lt g; omega

theorem V_top {t : Nat} (h : t < infMag) : V t ≤ (2 ^ 53 - 1) * 2 ^ 2045 := by
  have hi : infMag = 2047 * 2 ^ 52 := rfl
  have hA : V (infMag - 1) = (2 ^ 53 - 1) * 2 ^ 2045 := by
    have e : infMag - 1 = 2045 * 2 ^ 52 + (2 ^ 53 - 1) := by omega
    rw [e]
    exact V_at (k := 2045) (q := 2 ^ 53 - 1) (by omega) (.inl (by omega))
  rw [← hA]
  exact V_mono (by omega)

theorem not_over {W D t : Nat} (hD : 0 < D) (ht : t < infMag) (h : W ≤ D * V t) : ¬ D * ((2 ^ 54 - 1) * 2 ^ 2045) ≤ 2 * W := by
  intro hc
  have h1 := V_top ht
  have h2 : D * V t ≤ D * ((2 ^ 53 - 1) * 2 ^ 2045) := Nat.mul_le_mul_left _ h1
  have hZ : (0 : Nat) < 2 ^ 2045 := Nat.two_pow_pos _
  generalize (2 : Nat) ^ 2045 = Z at *
  have e : (2 ^ 54 - 1) * Z = 2 * ((2 ^ 53 - 1) * Z) + Z := by omega
  have e2 : D * ((2 ^ 54 - 1) * Z) = 2 * (D * ((2 ^ 53 - 1) * Z)) + D * Z := by
    rw [e, Nat.mul_add, Nat.mul_left_comm]
  have : 0 < D * Z := Nat.mul_pos hD hZ
  generalize D * ((2 ^ 53 - 1) * Z) = u at *
  generalize D * ((2 ^ 54 - 1) * Z) = v at *
  omega

/-- what rounds to the nearest lies between any two floats that its exact value lies between -/
theorem between {r : UInt64} {neg : Bool} {W D a b : Nat} (h : Right r neg W D) (hD : 0 < D) (hb : b < infMag) (h1 : D * V a ≤ W) (h2 : W ≤ D * V b) :
    ∃ t, r = pack neg t ∧ t < infMag ∧ V a ≤ V t ∧ V t ≤ V b := by
  obtain ⟨t, hr, hle, hinf, hn⟩ := h
  have ht : t < infMag := by
    rcases Nat.lt_or_ge t infMag with g | g
    · exact g
    · exact absurd (hinf.mp (by omega)) (not_over hD hb h2)
  refine ⟨t, hr, ht, ?_, ?_⟩
  · rcases Nat.lt_or_ge (V t) (V a) with g | g
    · exfalso
      have h3 := (hn ht a).1
      have h4 : D * V t < D * V a := Nat.mul_lt_mul_of_pos_left g hD
      unfold dist at h3
      omega
    · exact g
  · rcases Nat.lt_or_ge (V b) (V t) with g | g
    · exfalso
      have h3 := (hn ht b).1
      have h4 : D * V b < D * V t := Nat.mul_lt_mul_of_pos_left g hD
      unfold dist at h3
      omega
    · exact g

theorem right_exact {r : UInt64} {neg : Bool} {W D a : Nat} (h : Right r neg W D) (hD : 0 < D) (ha : a < infMag) (hW : W = D * V a) : r = pack neg a := by
  obtain ⟨t, hr, _, h1, h2⟩ := between h hD ha (Nat.le_of_eq hW.symm) (Nat.le_of_eq hW)
  rw [hr, V_inj (Nat.le_antisymm h2 h1)]

/-- the float n / 2 -/
@[irreducible] def hf (n : Int) : UInt64 := ofFrac (decide (n < 0)) n.natAbs 2

theorem hf_right (n : Int) : Right (hf n) (decide (n < 0)) (n.natAbs * 2 ^ 1073) 1 := by
  unfold hf
  refine ofFrac_right (by decide) ?_ (by decide)
  rw [Nat.mul_one, Nat.mul_assoc, ← Nat.pow_succ]

theorem hf_pack {n : Int} (h : n.natAbs ≤ 2 ^ 53) : ∃ t, t < infMag ∧ V t = n.natAbs * 2 ^ 1073 ∧ hf n = pack (decide (n < 0)) t := by
  obtain ⟨t, ht, hv⟩ := rep (n := n.natAbs) (k := 1073) h (by omega) (by omega)
  exact ⟨t, ht, hv, right_exact (hf_right n) (by decide) ht (by rw [hv, Nat.one_mul])⟩

theorem sgn_abs (n : Int) (K : Nat) : sgn (decide (n < 0)) (n.natAbs * K) = n * (K : Int) := by
  rw [sgn_mul]
  congr 1
  unfold sgn
  by_cases h : n < 0
  · rw [decide_eq_true h, if_pos rfl]; omega
  · rw [decide_eq_false h, if_neg (by decide)]; omega

theorem hf_decode {n : Int} (h : n.natAbs ≤ 2 ^ 53) : ∃ m e, decode (hf n) = .fin (decide (n < 0)) m e ∧ val (hf n) = n * ((2 ^ 1073 : Nat) : Int) := by
  obtain ⟨t, ht, hv, hp⟩ := hf_pack h
  obtain ⟨m, e, hd, _⟩ := decode_pack (decide (n < 0)) ht
  refine ⟨m, e, by rw [hp, hd], ?_⟩
  rw [hp, val_pack _ ht, hv, sgn_abs]

theorem hf_of_right {r : UInt64} {n : Int} {W D : Nat} (hn : n.natAbs ≤ 2 ^ 53) (hD : 0 < D) (hW : W = D * (n.natAbs * 2 ^ 1073)) (h : Right r (decide (n < 0)) W D) : r = hf n := by
  obtain ⟨t, ht, hv, hp⟩ := hf_pack hn
  rw [hp]
  exact right_exact h hD ht (by rw [hv, hW])

theorem zero_hf : zero false = hf 0 := by
  obtain ⟨t, ht, hv, hp⟩ := hf_pack (n := 0) (by decide)
  have : t = 0 := V_inj (by rw [hv]; simp [V])
  rw [hp, this]
  rfl

theorem K_pos : (0 : Int) < ((2 ^ 1073 : Nat) : Int) := Int.ofNat_lt.mpr (Nat.two_pow_pos _)

theorem mulK_neg {n K : Int} (hK : 0 < K) : decide (n * K < 0) = decide (n < 0) := by
  apply decide_eq_decide.mpr
  constructor
  · intro h
    rcases Int.lt_or_le n 0 with g | g
    · exact g
    · have := Int.mul_nonneg g (Int.le_of_lt hK); omega
  · intro h; exact Int.mul_neg_of_neg_of_pos h hK
theorem mulK_zero {n K : Int} (hK : 0 < K) : n * K = 0 ↔ n = 0 := by
  rw [Int.mul_eq_zero]; omega

theorem hf_add {a b : Int} (ha : a.natAbs ≤ 2 ^ 53) (hb : b.natAbs ≤ 2 ^ 53) (hc : (a + b).natAbs ≤ 2 ^ 53) : add (hf a) (hf b) = hf (a + b) := by
  obtain ⟨m, e, hd, hv⟩ := hf_decode ha
  obtain ⟨k, f, hd2, hv2⟩ := hf_decode hb
  have h := add_right hd hd2
  rw [hv, hv2, ← Int.add_mul] at h
  by_cases hz : a + b = 0
  · rw [h.1 (by rw [hz, Int.zero_mul]), hz, ← zero_hf]
    congr 1
    by_cases g : a < 0
    · rw [decide_eq_false (p := b < 0) (by omega)]; simp
    · rw [decide_eq_false g]; simp
  · have h2 := h.2 (fun g => hz ((mulK_zero K_pos).mp g))
    rw [mulK_neg K_pos] at h2
    exact hf_of_right hc (by decide) (by rw [Nat.one_mul, Int.natAbs_mul, Int.natAbs_natCast]) h2

theorem hf_neg_val {b : Int} (hb : b.natAbs ≤ 2 ^ 53) : ∃ k f, decode (hf b) = .fin (decide (b < 0)) k f := by
  obtain ⟨m, e, hd, _⟩ := hf_decode hb
  exact ⟨m, e, hd⟩

theorem hf_sub {a b : Int} (ha : a.natAbs ≤ 2 ^ 53) (hb : b.natAbs ≤ 2 ^ 53) (hc : (a - b).natAbs ≤ 2 ^ 53) (hs : ¬ (a < 0 ∧ a = b)) : sub (hf a) (hf b) = hf (a - b) := by
  obtain ⟨m, e, hd, hv⟩ := hf_decode ha
  obtain ⟨k, f, hd2, hv2⟩ := hf_decode hb
  have h := sub_right hd hd2
  rw [hv, hv2, ← Int.sub_mul] at h
  by_cases hz : a - b = 0
  · rw [h.1 (by rw [hz, Int.zero_mul]), hz, ← zero_hf]
    congr 1
    rw [decide_eq_false (p := a < 0) (by omega)]; simp
  · have h2 := h.2 (fun g => hz ((mulK_zero K_pos).mp g))
    rw [mulK_neg K_pos] at h2
    exact hf_of_right hc (by decide) (by rw [Nat.one_mul, Int.natAbs_mul, Int.natAbs_natCast]) h2

theorem ofInt_hf {n : Int} (h : n.natAbs ≤ 2 ^ 52) : ofInt n = hf (2 * n) := by
  have h1 := ofInt_right n
  have e : decide (n < 0) = decide (2 * n < 0) := by apply decide_eq_decide.mpr; omega
  rw [e] at h1
  refine hf_of_right (by omega) (by decide) ?_ h1
  rw [Nat.one_mul, Int.natAbs_mul, show (2 : Int).natAbs = 2 from rfl, Nat.mul_comm 2, Nat.mul_assoc]

theorem hf_mul {a b c : Int} (ha : a.natAbs ≤ 2 ^ 53) (hb : b.natAbs ≤ 2 ^ 53) (hc : c.natAbs ≤ 2 ^ 53) (h0 : 0 ≤ a) (h1 : 0 ≤ b) (h : a * b = 2 * c) : mul (hf a) (hf b) = hf c := by
  obtain ⟨m, e, hd, hv⟩ := hf_decode ha
  obtain ⟨k, f, hd2, hv2⟩ := hf_decode hb
  have h2 := mul_right hd hd2
  have hc0 : 0 ≤ c := by have := Int.mul_nonneg h0 h1; omega
  rw [hv, hv2, decide_eq_false (p := a < 0) (by omega), decide_eq_false (p := b < 0) (by omega)] at h2
  refine hf_of_right hc (Nat.two_pow_pos _) ?_ (by rw [decide_eq_false (p := c < 0) (by omega)]; exact h2)
  rw [Int.natAbs_mul, Int.natAbs_mul, Int.natAbs_natCast]
  have e1 : a.natAbs * b.natAbs = 2 * c.natAbs := by rw [← Int.natAbs_mul, h, Int.natAbs_mul]; rfl
  have e2 : (2 : Nat) ^ 1074 = 2 ^ 1073 * 2 := by rw [← Nat.pow_succ]
  rw [e2]
  generalize (2 : Nat) ^ 1073 = K
  calc a.natAbs * K * (b.natAbs * K) = a.natAbs * b.natAbs * (K * K) := by ac_rfl
    _ = 2 * c.natAbs * (K * K) := by rw [e1]
    _ = K * 2 * (c.natAbs * K) := by ac_rfl

theorem compare_mulK {a b K : Int} (hK : 0 < K) : compare (a * K) (b * K) = compare a b := by
  rcases Int.lt_trichotomy a b with h | h | h
  · rw [Int.compare_eq_lt.mpr h, Int.compare_eq_lt.mpr (Int.mul_lt_mul_of_pos_right h hK)]
  · subst h; simp
  · rw [Int.compare_eq_gt.mpr h, Int.compare_eq_gt.mpr (Int.mul_lt_mul_of_pos_right h hK)]
theorem hf_cmp {a b : Int} (ha : a.natAbs ≤ 2 ^ 53) (hb : b.natAbs ≤ 2 ^ 53) : cmp (hf a) (hf b) = some (compare a b) := by
  obtain ⟨m, e, hd, hv⟩ := hf_decode ha
  obtain ⟨k, f, hd2, hv2⟩ := hf_decode hb
  rw [cmp_right hd hd2, hv, hv2, compare_mulK K_pos]
theorem hf_cmpInt {a b : Int} (ha : a.natAbs ≤ 2 ^ 53) : cmpInt (hf a) b = some (compare a (2 * b)) := by
  obtain ⟨m, e, hd, hv⟩ := hf_decode ha
  rw [cmpInt_right hd, hv]
  have e2 : b * (2 : Int) ^ 1074 = (2 * b) * ((2 ^ 1073 : Nat) : Int) := by
    rw [show ((2 ^ 1073 : Nat) : Int) = (2 : Int) ^ 1073 by simp, show (1074 : Nat) = 1073 + 1 from rfl, Int.pow_succ]
    generalize (2 : Int) ^ 1073 = K
    rw [Int.mul_comm 2 b, Int.mul_assoc, Int.mul_comm K 2]
  rw [e2, compare_mulK K_pos]

/-- floor of a decoded float by its value -/
theorem floorOf_val {x : UInt64} {s : Bool} {m : Nat} {e : Int} (hd : decode x = .fin s m e) : floorOf s m e = val x / ((2 ^ 1074 : Nat) : Int) := by
  have he := decode_ge hd
  rw [val_eq hd, sgn_mul]
  unfold floorOf
  split
  · rename_i h
    have e1 : (e + 1074).toNat = e.toNat + 1074 := by omega
    rw [e1, Nat.pow_add, Int.natCast_mul, ← Int.mul_assoc]
    rw [Int.mul_ediv_cancel _ (by have := Nat.two_pow_pos 1074; omega)]
    congr 1
  · rename_i h
    have e1 : 1074 = (e + 1074).toNat + (-e).toNat := by omega
    have e2 : ((2 ^ 1074 : Nat) : Int) = ((2 ^ (-e).toNat : Nat) : Int) * ((2 ^ (e + 1074).toNat : Nat) : Int) := by
      rw [← Int.natCast_mul, ← Nat.pow_add]
      congr 2
      omega
    rw [e2, Int.mul_ediv_mul_of_pos_left _ _ (Int.ofNat_lt.mpr (Nat.two_pow_pos _))]
    have hp : (0 : Int) ≤ 2 ^ (-e).toNat := Int.le_of_lt (Int.pow_pos (by decide))
    rw [Int.fdiv_eq_ediv_of_nonneg _ hp]
    congr 1

theorem hf_floor {n : Int} (h : n.natAbs ≤ 2 ^ 53) : ∃ s m e, decode (hf n) = .fin s m e ∧ floorOf s m e = n / 2 := by
  obtain ⟨m, e, hd, hv⟩ := hf_decode h
  refine ⟨_, m, e, hd, ?_⟩
  rw [floorOf_val hd, hv]
  have e2 : ((2 ^ 1074 : Nat) : Int) = 2 * ((2 ^ 1073 : Nat) : Int) := by
    rw [show (2 : Nat) ^ 1074 = 2 ^ 1073 * 2 by rw [← Nat.pow_succ], Nat.mul_comm]; exact Int.natCast_mul 2 _
  rw [e2, Int.mul_ediv_mul_of_pos_left _ _ K_pos]

theorem hf_trunc {n : Int} (h : n.natAbs ≤ 2 ^ 53) (h0 : 0 ≤ n) : ∃ s m e, decode (hf n) = .fin s m e ∧ truncOf s m e = n / 2 := by
  obtain ⟨s, m, e, hd, hf⟩ := hf_floor h
  obtain ⟨m', e', hd', _⟩ := hf_decode h
  rw [hd] at hd'
  cases hd'
  refine ⟨_, m, e, hd, ?_⟩
  unfold truncOf
  rw [if_neg (by simp; omega), hf]

/-- the floor of a quotient that is rounded to the nearest is the floor of the quotient -/
theorem quot_floor {r : UInt64} {a : Int} {b W D : Nat} (hD : 0 < D) (hb : 0 < b) (hW : W * b = a.natAbs * 2 ^ 1074 * D) (hs : a.natAbs + b ≤ 2 ^ 52)
    (h : Right r (decide (a < 0)) W D) : ∃ s m e, decode r = .fin s m e ∧ floorOf s m e = a / (b : Int) := by
  have hb2 := Nat.lt_log2_self (n := b)
  have hb1 := Nat.log2_self_le (n := b) (by omega)
  have hj : b.log2 + 1 ≤ 53 := by
    have : b.log2 < 53 := (Nat.log2_lt (by omega)).2 (by omega)
    omega
  generalize hJ : b.log2 + 1 = j at *
  have hS2 : 2 ^ j ≤ 2 * b := by rw [← hJ, Nat.pow_succ]; omega
  have hqr := Nat.div_add_mod a.natAbs b
  have hr := Nat.mod_lt a.natAbs hb
  generalize hQ : a.natAbs / b = q at *
  generalize hR : a.natAbs % b = ρ at *
  have hK : (2 : Nat) ^ 1074 = 2 ^ j * 2 ^ (1074 - j) := by rw [← Nat.pow_add]; congr 1; omega
  have hKp : 0 < 2 ^ (1074 - j) := Nat.two_pow_pos _
  have hSp : 0 < 2 ^ j := Nat.two_pow_pos _
  have hq1 : (q + 1) * 2 ^ j ≤ 2 ^ 53 := by
    calc (q + 1) * 2 ^ j ≤ (q + 1) * (2 * b) := Nat.mul_le_mul_left _ hS2
      _ = 2 * (b * q + b) := by rw [Nat.add_mul, Nat.one_mul, Nat.mul_add, Nat.mul_left_comm, Nat.mul_comm q b]
      _ ≤ 2 ^ 53 := by omega
  have hexp : (q + 1) * 2 ^ j = q * 2 ^ j + 2 ^ j := by rw [Nat.add_mul, Nat.one_mul]
  -- the two floats around it
  have core : ∃ t, r = pack (decide (a < 0)) t ∧ t < infMag ∧ (ρ = 0 → V t = q * 2 ^ 1074) ∧ (ρ ≠ 0 → q * 2 ^ 1074 < V t ∧ V t < (q + 1) * 2 ^ 1074) := by
    have scale : ∀ v : Nat, (b * v ≤ a.natAbs * 2 ^ 1074 → D * v ≤ W) ∧ (a.natAbs * 2 ^ 1074 ≤ b * v → W ≤ D * v) := by
      intro v
      constructor
      · intro hv
        refine Nat.le_of_mul_le_mul_right (c := b) ?_ hb
        rw [hW]
        calc D * v * b = b * v * D := by ac_rfl
          _ ≤ a.natAbs * 2 ^ 1074 * D := Nat.mul_le_mul_right _ hv
      · intro hv
        refine Nat.le_of_mul_le_mul_right (c := b) ?_ hb
        rw [hW]
        calc a.natAbs * 2 ^ 1074 * D ≤ b * v * D := Nat.mul_le_mul_right _ hv
          _ = D * v * b := by ac_rfl
    by_cases h0 : ρ = 0
    · obtain ⟨t0, ht0, hv0⟩ := rep (n := q * 2 ^ j) (k := 1074 - j) (by omega) (by omega) (by omega)
      rw [Nat.mul_assoc, ← hK] at hv0
      have ea : a.natAbs = b * q := by omega
      obtain ⟨t, hr', ht, h1, h2⟩ := between h hD ht0 ((scale _).1 (by rw [hv0, ea, Nat.mul_assoc]; exact Nat.le_refl _)) ((scale _).2 (by rw [hv0, ea, Nat.mul_assoc]; exact Nat.le_refl _))
      exact ⟨t, hr', ht, fun _ => by omega, fun g => absurd h0 g⟩
    · obtain ⟨t0, ht0, hv0⟩ := rep (n := q * 2 ^ j + 1) (k := 1074 - j) (by omega) (by omega) (by omega)
      obtain ⟨t1, ht1, hv1⟩ := rep (n := (q + 1) * 2 ^ j - 1) (k := 1074 - j) (by omega) (by omega) (by omega)
      have hbS : b ≤ 2 ^ j := by omega
      have hlo : b * V t0 ≤ a.natAbs * 2 ^ 1074 := by
        rw [hv0, hK, ← Nat.mul_assoc, ← Nat.mul_assoc]
        refine Nat.mul_le_mul_right _ ?_
        have : a.natAbs * 2 ^ j = b * (q * 2 ^ j) + ρ * 2 ^ j := by rw [← hqr, Nat.add_mul, Nat.mul_assoc]
        rw [this, Nat.mul_add, Nat.mul_one]
        have : 1 * 2 ^ j ≤ ρ * 2 ^ j := Nat.mul_le_mul_right _ (by omega)
        omega
      have hhi : a.natAbs * 2 ^ 1074 ≤ b * V t1 := by
        rw [hv1, hK, ← Nat.mul_assoc, ← Nat.mul_assoc]
        refine Nat.mul_le_mul_right _ ?_
        have e1 : a.natAbs * 2 ^ j = b * (q * 2 ^ j) + ρ * 2 ^ j := by rw [← hqr, Nat.add_mul, Nat.mul_assoc]
        have e2 : b * ((q + 1) * 2 ^ j - 1) = b * (q * 2 ^ j) + b * 2 ^ j - b := by rw [Nat.mul_sub, Nat.mul_one, hexp, Nat.mul_add]
        have e3 : ρ * 2 ^ j ≤ (b - 1) * 2 ^ j := Nat.mul_le_mul_right _ (by omega)
        have e4 : (b - 1) * 2 ^ j = b * 2 ^ j - 2 ^ j := by rw [Nat.sub_mul, Nat.one_mul]
        have e5 : 1 * 2 ^ j ≤ b * 2 ^ j := Nat.mul_le_mul_right _ (by omega)
        rw [e1, e2]
        omega
      obtain ⟨t, hr', ht, h1, h2⟩ := between h hD ht1 ((scale _).1 hlo) ((scale _).2 hhi)
      refine ⟨t, hr', ht, fun g => absurd g h0, fun _ => ?_⟩
      have g1 : q * 2 ^ 1074 < V t0 := by
        rw [hv0, hK, ← Nat.mul_assoc]
        exact Nat.mul_lt_mul_of_pos_right (by omega) hKp
      have g2 : V t1 < (q + 1) * 2 ^ 1074 := by
        rw [hv1, hK, ← Nat.mul_assoc]
        exact Nat.mul_lt_mul_of_pos_right (by omega) hKp
      omega
  obtain ⟨t, hr', ht, h1, h2⟩ := core
  obtain ⟨m, e, hd, hm⟩ := decode_pack (decide (a < 0)) ht
  rw [hr']
  refine ⟨_, m, e, hd, ?_⟩
  rw [floorOf_val hd, val_pack _ ht]
  have hP : 0 < (2 : Nat) ^ 1074 := Nat.two_pow_pos _
  generalize (2 : Nat) ^ 1074 = P at *
  have hbz : (b : Int) ≠ 0 := by omega
  have hqr' : (b : Int) * (q : Int) + (ρ : Int) = (a.natAbs : Int) := by rw [← hqr]; simp
  by_cases hn : a < 0
  · rw [decide_eq_true hn]
    unfold sgn
    rw [if_pos rfl]
    by_cases h0 : ρ = 0
    · have ea : a = (b : Int) * (-(q : Int)) := by rw [Int.mul_neg]; omega
      rw [h1 h0, ea, Int.mul_ediv_cancel_left _ hbz, Int.natCast_mul, ← Int.neg_mul, Int.mul_ediv_cancel _ (by omega)]
    · obtain ⟨g1, g2⟩ := h2 h0
      have ea : a = ((b : Int) - ρ) + (b : Int) * (-((q : Int) + 1)) := by rw [Int.mul_neg, Int.mul_add]; omega
      have z1 : ((b : Int) - ρ) / (b : Int) = 0 := Int.ediv_eq_zero_of_lt (by omega) (by omega)
      have ev : -(V t : Int) = ((((q + 1) * P : Nat) : Int) - (V t : Int)) + (P : Int) * (-((q : Int) + 1)) := by
        rw [Int.natCast_mul, Int.mul_neg, Int.mul_comm (P : Int)]; simp; omega
      have z2 : ((((q + 1) * P : Nat) : Int) - (V t : Int)) / (P : Int) = 0 := by
        rw [Nat.add_mul] at g2
        exact Int.ediv_eq_zero_of_lt (by rw [Nat.add_mul]; omega) (by rw [Nat.add_mul]; omega)
      rw [ev, Int.add_mul_ediv_left _ _ (by omega), z2, ea, Int.add_mul_ediv_left _ _ hbz, z1]
  · rw [decide_eq_false hn]
    unfold sgn
    rw [if_neg (by decide)]
    have ea : a = (ρ : Int) + (b : Int) * (q : Int) := by omega
    have z1 : (ρ : Int) / (b : Int) = 0 := Int.ediv_eq_zero_of_lt (by omega) (by omega)
    have hR : a / (b : Int) = q := by rw [ea, Int.add_mul_ediv_left _ _ hbz, z1]; omega
    rw [hR]
    by_cases h0 : ρ = 0
    · rw [h1 h0, Int.natCast_mul, Int.mul_ediv_cancel _ (by omega)]
    · obtain ⟨g1, g2⟩ := h2 h0
      have ev : (V t : Int) = ((V t : Int) - ((q * P : Nat) : Int)) + (P : Int) * (q : Int) := by
        rw [Int.natCast_mul, Int.mul_comm (P : Int)]; omega
      have z2 : ((V t : Int) - ((q * P : Nat) : Int)) / (P : Int) = 0 := by
        rw [Nat.add_mul] at g2
        exact Int.ediv_eq_zero_of_lt (by omega) (by omega)
      rw [ev, Int.add_mul_ediv_left _ _ (by omega), z2]
      omega

theorem ii_floor {a b : Int} (hb : 0 < b) (hs : a.natAbs + b.natAbs ≤ 2 ^ 52) :
    ∃ s m e, decode (ofFrac (decide (a < 0) != decide (b < 0)) a.natAbs b.natAbs) = .fin s m e ∧ floorOf s m e = a / b := by
  have h : Right (ofFrac (decide (a < 0)) a.natAbs b.natAbs) (decide (a < 0)) (a.natAbs * 2 ^ 1074) b.natAbs :=
    ofFrac_right (by omega) rfl (by omega)
  have h2 := quot_floor (by omega) (by omega) rfl hs h
  have e : ((b.natAbs : Nat) : Int) = b := by omega
  rw [e] at h2
  rw [decide_eq_false (p := b < 0) (by omega), Bool.bne_false]
  exact h2
theorem ff_floor {a b : Int} (hb : 0 < b) (hs : a.natAbs + b.natAbs ≤ 2 ^ 52) :
    ∃ s m e, decode (div (hf a) (hf b)) = .fin s m e ∧ floorOf s m e = a / b := by
  obtain ⟨m, e, hd, hv⟩ := hf_decode (n := a) (by omega)
  obtain ⟨k, f, hd2, hv2⟩ := hf_decode (n := b) (by omega)
  have hk : k ≠ 0 := by
    intro g
    have := val_eq hd2
    rw [hv2, g, Nat.zero_mul] at this
    have h0 : sgn (decide (b < 0)) 0 = 0 := by unfold sgn; split <;> rfl
    rw [h0] at this
    rcases Int.mul_eq_zero.mp this with h | h
    · omega
    · have := K_pos; omega
  have h := div_right hd hd2 hk
  rw [hv, hv2, decide_eq_false (p := b < 0) (by omega), Bool.bne_false, Int.natAbs_mul, Int.natAbs_mul, Int.natAbs_natCast] at h
  have h2 := quot_floor (b := b.natAbs) (Nat.mul_pos (by omega) (Nat.two_pow_pos _)) (by omega) (by
    generalize (2 : Nat) ^ 1073 = K
    generalize (2 : Nat) ^ 1074 = P
    ac_rfl) hs h
  have e : ((b.natAbs : Nat) : Int) = b := by omega
  rw [e] at h2
  exact h2
end Mine
namespace Mine
set_option exponentiation.threshold 3000
open PySem PySem.Float64 PySem.W PyProof.Rows

theorem ff_floor2 {a b : Int} (hb : 0 < b) (hs : a.natAbs + b.natAbs ≤ 2 ^ 52) (ha : (2 * a).natAbs ≤ 2 ^ 53) (hb2 : (2 * b).natAbs ≤ 2 ^ 53) :
    ∃ s m e, decode (div (hf (2 * a)) (hf (2 * b))) = .fin s m e ∧ floorOf s m e = a / b := by
  obtain ⟨m, e, hd, hv⟩ := hf_decode ha
  obtain ⟨k, f, hd2, hv2⟩ := hf_decode hb2
  have hk : k ≠ 0 := by
    intro g
    have := val_eq hd2
    rw [hv2, g, Nat.zero_mul] at this
    have h0 : sgn (decide (2 * b < 0)) 0 = 0 := by unfold sgn; split <;> rfl
    rw [h0] at this
    rcases Int.mul_eq_zero.mp this with h | h
    · omega
    · have := K_pos; omega
  have h := div_right hd hd2 hk
  rw [hv, hv2, decide_eq_false (p := 2 * b < 0) (by omega), Bool.bne_false, Int.natAbs_mul, Int.natAbs_mul, Int.natAbs_natCast, Int.natAbs_mul, Int.natAbs_mul] at h
  have e1 : decide (2 * a < 0) = decide (a < 0) := by apply decide_eq_decide.mpr; omega
  rw [e1] at h
  have h2 := quot_floor (b := b.natAbs) (Nat.mul_pos (Nat.mul_pos (by decide) (by omega)) (Nat.two_pow_pos _)) (by omega) (by
    generalize (2 : Nat) ^ 1073 = K
    generalize (2 : Nat) ^ 1074 = P
    ac_rfl) hs h
  have e : ((b.natAbs : Nat) : Int) = b := by omega
  rw [e] at h2
  exact h2

/-- what the machine's remainder of two such floats is -/
theorem fmod_right {a b : Int} (ha : a.natAbs ≤ 2 ^ 53) (hb : b.natAbs ≤ 2 ^ 53) (h0 : 0 < b) :
    Right (fmod (hf a) (hf b)) (decide (a < 0)) (a.natAbs % b.natAbs * 2 ^ 1073) 1 := by
  obtain ⟨m, e, hd, hv⟩ := hf_decode ha
  obtain ⟨k, f, hd2, hv2⟩ := hf_decode hb
  have he := decode_ge hd
  have hf' := decode_ge hd2
  have n1 := val_natAbs hd
  have n2 := val_natAbs hd2
  rw [hv, Int.natAbs_mul, Int.natAbs_natCast] at n1
  rw [hv2, Int.natAbs_mul, Int.natAbs_natCast] at n2
  have hk : k ≠ 0 := by
    intro g
    rw [g, Nat.zero_mul] at n2
    rcases Nat.mul_eq_zero.mp n2 with h | h
    · omega
    · have := Nat.two_pow_pos 1073; omega
  have hfm : fmod (hf a) (hf b) = ofBin (decide (a < 0)) (m * 2 ^ (e - min e f).toNat % (k * 2 ^ (f - min e f).toNat)) (min e f) := by
    unfold fmod
    rw [hd, hd2]
    simp only
    rw [if_neg (by simpa using hk)]
    rfl
  rw [hfm]
  unfold ofBin
  refine ofFrac_right (shift_pos _ _ _ (by decide)) ?_ (by decide)
  have := shift_one (m * 2 ^ (e - min e f).toNat % (k * 2 ^ (f - min e f).toNat)) (min e f) 1074 (by omega)
  rw [Nat.mul_one]
  refine this.trans ?_
  congr 1
  have e1 : (min e f + ((1074 : Nat) : Int)).toNat = (min e f + 1074).toNat := rfl
  rw [e1, Nat.mul_comm _ (2 ^ (min e f + 1074).toNat), ← Nat.mul_mod_mul_left]
  have g1 : 2 ^ (min e f + 1074).toNat * (m * 2 ^ (e - min e f).toNat) = m * 2 ^ (e + 1074).toNat := by
    rw [Nat.mul_comm, Nat.mul_assoc, ← Nat.pow_add]; congr 2; omega
  have g2 : 2 ^ (min e f + 1074).toNat * (k * 2 ^ (f - min e f).toNat) = k * 2 ^ (f + 1074).toNat := by
    rw [Nat.mul_comm, Nat.mul_assoc, ← Nat.pow_add]; congr 2; omega
  rw [g1, g2, ← n1, ← n2, Nat.mul_mod_mul_right]

theorem zeros : isZero (pack true 0) = true ∧ isZero (pack false 0) = true ∧ isNaN (zero false) = false ∧ (zero false).toNat = 0 := by decide +kernel
theorem hf_mod {a b : Int} (ha : a.natAbs ≤ 2 ^ 52) (hb : b.natAbs ≤ 2 ^ 52) (h0 : 0 < b) : (divmod (hf a) (hf b)).2 = hf (a % b) := by
  have hr := fmod_right (a := a) (b := b) (by omega) (by omega) h0
  have hlt : a.natAbs % b.natAbs < b.natAbs := Nat.mod_lt _ (by omega)
  have hqr := Nat.div_add_mod a.natAbs b.natAbs
  generalize hρ : a.natAbs % b.natAbs = ρ at *
  generalize hq : a.natAbs / b.natAbs = q at *
  have eb : ((b.natAbs : Nat) : Int) = b := by omega
  have hqr' : b * (q : Int) + (ρ : Int) = (a.natAbs : Int) := by rw [← hqr, Int.natCast_add, Int.natCast_mul, eb]
  have hz := zeros
  have hsnd : (divmod (hf a) (hf b)).2 = if isZero (fmod (hf a) (hf b)) then copysign (zero false) (hf b) else if lt (hf b) (zero false) != lt (fmod (hf a) (hf b)) (zero false) then add (fmod (hf a) (hf b)) (hf b) else fmod (hf a) (hf b) := by
    unfold divmod
    simp only
    by_cases c1 : isZero (fmod (hf a) (hf b)) = true
    · rw [if_pos c1, if_pos c1]
    · rw [if_neg c1, if_neg c1]
      by_cases c2 : (lt (hf b) (zero false) != lt (fmod (hf a) (hf b)) (zero false)) = true
      · rw [if_pos c2, if_pos c2]
      · rw [if_neg c2, if_neg c2]
  rw [hsnd]
  by_cases h1 : ρ = 0
  · have hm : fmod (hf a) (hf b) = pack (decide (a < 0)) 0 := right_exact hr (by decide) (by decide) (by rw [h1]; simp [V])
    have hc : isZero (fmod (hf a) (hf b)) = true := by
      rw [hm]
      by_cases hn : a < 0
      · rw [decide_eq_true hn]; exact hz.1
      · rw [decide_eq_false hn]; exact hz.2.1
    rw [if_pos hc]
    have hab : a % b = 0 := by
      apply Int.emod_eq_zero_of_dvd
      by_cases hn : a < 0
      · exact ⟨-(q : Int), by rw [Int.mul_neg]; omega⟩
      · exact ⟨(q : Int), by omega⟩
    rw [hab, ← zero_hf]
    obtain ⟨t, ht, hv, hp⟩ := hf_pack (n := b) (by omega)
    have hi : infMag = 2047 * 2 ^ 52 := rfl
    have hsb : signBit (hf b) = false := by
      unfold signBit
      rw [hp, decide_eq_false (p := b < 0) (by omega), pack_toNat false (t := t) (by omega)]
      simp
      omega
    unfold copysign
    rw [if_neg (by rw [hz.2.2.1]; decide), hsb, hz.2.2.2]
    rfl
  · have hdiv : ∀ c : Int, ∀ q' : Int, a = c + b * q' → 0 ≤ c → c < b → a % b = c := by
      intro c q' e1 e2 e3
      rw [e1, Int.add_mul_emod_self_left]
      exact Int.emod_eq_of_lt e2 e3
    by_cases hn : a < 0
    · have hm : fmod (hf a) (hf b) = hf (-(ρ : Int)) := hf_of_right (W := ρ * 2 ^ 1073) (D := 1) (by omega) (by decide) (by rw [Nat.one_mul, Int.natAbs_neg, Int.natAbs_natCast]) (by rw [decide_eq_true (p := -(ρ : Int) < 0) (by omega), ← decide_eq_true hn]; exact hr)
      have hnz : isZero (hf (-(ρ : Int))) = false := by
        obtain ⟨m, e, hd, hv⟩ := hf_decode (n := -(ρ : Int)) (by omega)
        unfold isZero
        rw [hd]
        cases m with
        | zero =>
          have := val_eq hd
          rw [hv, Nat.zero_mul] at this
          have h00 : sgn (decide (-(ρ : Int) < 0)) 0 = 0 := by unfold sgn; split <;> rfl
          rw [h00] at this
          rcases Int.mul_eq_zero.mp this with h | h
          · omega
          · have := K_pos; omega
        | succ n => rfl
      rw [hm, if_neg (by rw [hnz]; decide), zero_hf]
      have c1 : lt (hf b) (hf 0) = false := by
        unfold lt
        rw [hf_cmp (by omega) (by decide), Int.compare_eq_gt.mpr (by omega)]
        rfl
      have c2 : lt (hf (-(ρ : Int))) (hf 0) = true := by
        unfold lt
        rw [hf_cmp (by omega) (by decide), Int.compare_eq_lt.mpr (by omega)]
        rfl
      rw [c1, c2, if_pos (by decide), hf_add (by omega) (by omega) (by omega)]
      congr 1
      have e9 : a = (-(ρ : Int) + b) + b * (-(q : Int) - 1) := by
        rw [Int.mul_sub, Int.mul_neg]; omega
      exact (hdiv _ _ e9 (by omega) (by omega)).symm
    · have hm : fmod (hf a) (hf b) = hf (ρ : Int) := hf_of_right (W := ρ * 2 ^ 1073) (D := 1) (by omega) (by decide) (by rw [Nat.one_mul, Int.natAbs_natCast]) (by rw [decide_eq_false (p := (ρ : Int) < 0) (by omega), ← decide_eq_false hn]; exact hr)
      have hnz : isZero (hf (ρ : Int)) = false := by
        obtain ⟨m, e, hd, hv⟩ := hf_decode (n := (ρ : Int)) (by omega)
        unfold isZero
        rw [hd]
        cases m with
        | zero =>
          have := val_eq hd
          rw [hv, Nat.zero_mul] at this
          have h00 : sgn (decide ((ρ : Int) < 0)) 0 = 0 := by unfold sgn; split <;> rfl
          rw [h00] at this
          rcases Int.mul_eq_zero.mp this with h | h
          · omega
          · have := K_pos; omega
        | succ n => rfl
      rw [hm, if_neg (by rw [hnz]; decide), zero_hf]
      have c1 : lt (hf b) (hf 0) = false := by
        unfold lt
        rw [hf_cmp (by omega) (by decide), Int.compare_eq_gt.mpr (by omega)]
        rfl
      have c2 : lt (hf (ρ : Int)) (hf 0) = false := by
        unfold lt
        rw [hf_cmp (by omega) (by decide), Int.compare_eq_gt.mpr (by omega)]
        rfl
      rw [c1, c2, if_neg (by decide)]
      congr 1
      exact (hdiv _ (q : Int) (by omega) (by omega) (by omega)).symm

/-! rules of the walk -/
theorem lit_half : (4602678819172646912 : UInt64) = hf 1 := by
  unfold hf; decide +kernel
theorem lit_epoch : (4689722129631936512 : UInt64) = hf 695991 := by
  unfold hf; decide +kernel

abbrev Sm (n : Int) : Prop := -2000000000000000 ≤ n ∧ n ≤ 2000000000000000

section
variable {prog : Program} {w : World} {A : Around} {E : Value → Shared → Prop} {s : Shared} {t u : Tok} {Q : Value → Shared → Prop} {x y : UInt64} {a b n : Int}

theorem r_add_fi (hx : x = hf a) (ha : Sm a) (hn : Sm n) (h : Q (.float (hf (a + 2 * n)) s.toks) { s with toks := s.toks + 1 }) : wpAny (model prog w) A (binaryOp .Add (.float x t) (.int n u)) Q E s := by
  subst hx
  refine add_fi_fits (by omega) ?_
  rw [ofInt_hf (by omega), hf_add (by omega) (by omega) (by omega)]
  exact h
theorem r_iadd_fi (hx : x = hf a) (ha : Sm a) (hn : Sm n) (h : Q (.float (hf (a + 2 * n)) s.toks) { s with toks := s.toks + 1 }) : wpAny (model prog w) A (inplaceOp .Add (.float x t) (.int n u)) Q E s := by
  subst hx
  refine PySem.Flt.iadd_fi_1 (Float64.ofInt_fits (by omega)) ?_
  rw [ofInt_hf (by omega), hf_add (by omega) (by omega) (by omega)]
  exact h
theorem r_add_if (hx : x = hf a) (ha : Sm a) (hn : Sm n) (h : Q (.float (hf (2 * n + a)) s.toks) { s with toks := s.toks + 1 }) : wpAny (model prog w) A (binaryOp .Add (.int n u) (.float x t)) Q E s := by
  subst hx
  refine add_if_fits (by omega) ?_
  rw [ofInt_hf (by omega), hf_add (by omega) (by omega) (by omega)]
  exact h
theorem r_add_ff (hx : x = hf a) (hy : y = hf b) (ha : Sm a) (hb : Sm b) (h : Q (.float (hf (a + b)) s.toks) { s with toks := s.toks + 1 }) : wpAny (model prog w) A (binaryOp .Add (.float x t) (.float y u)) Q E s := by
  subst hx; subst hy
  refine add_float ?_
  rw [hf_add (by omega) (by omega) (by omega)]
  exact h
theorem r_sub_ff (hx : x = hf a) (hy : y = hf b) (ha : Sm a) (hb : Sm b) (h0 : 0 ≤ a) (h : Q (.float (hf (a - b)) s.toks) { s with toks := s.toks + 1 }) : wpAny (model prog w) A (binaryOp .Sub (.float x t) (.float y u)) Q E s := by
  subst hx; subst hy
  refine sub_float ?_
  rw [hf_sub (by omega) (by omega) (by omega) (by omega)]
  exact h
theorem r_sub_fi (hx : x = hf a) (ha : Sm a) (hn : Sm n) (h0 : 0 ≤ a) (h : Q (.float (hf (a - 2 * n)) s.toks) { s with toks := s.toks + 1 }) : wpAny (model prog w) A (binaryOp .Sub (.float x t) (.int n u)) Q E s := by
  subst hx
  refine sub_fi_fits (by omega) ?_
  rw [ofInt_hf (by omega), hf_sub (by omega) (by omega) (by omega) (by omega)]
  exact h
theorem r_mul_if (hx : x = hf a) (ha : Sm a) (hn : Sm n) (hc : Sm (n * a)) (h0 : 0 ≤ a) (h1 : 0 ≤ n) (h : Q (.float (hf (n * a)) s.toks) { s with toks := s.toks + 1 }) : wpAny (model prog w) A (binaryOp .Mult (.int n u) (.float x t)) Q E s := by
  subst hx
  refine mul_if_fits (by omega) ?_
  rw [ofInt_hf (by omega), hf_mul (c := n * a) (by omega) (by omega) (by omega) (by omega) (by omega) (by rw [Int.mul_assoc])]
  exact h
theorem r_mul_fi (hx : x = hf a) (ha : Sm a) (hn : Sm n) (hc : Sm (a * n)) (h0 : 0 ≤ a) (h1 : 0 ≤ n) (h : Q (.float (hf (a * n)) s.toks) { s with toks := s.toks + 1 }) : wpAny (model prog w) A (binaryOp .Mult (.float x t) (.int n u)) Q E s := by
  subst hx
  refine mul_fi_fits (by omega) ?_
  rw [ofInt_hf (by omega), hf_mul (c := a * n) (by omega) (by omega) (by omega) (by omega) (by omega) (by rw [Int.mul_left_comm])]
  exact h
theorem isZero_hf (hb : b ≤ 4000000000000000) (h0 : 0 < b) : ¬ isZero (hf b) = true := by
  obtain ⟨m, e, hd, hv⟩ := hf_decode (n := b) (by omega)
  unfold isZero
  rw [hd]
  cases m with
  | zero =>
    have := val_eq hd
    rw [hv, Nat.zero_mul] at this
    have h00 : sgn (decide (b < 0)) 0 = 0 := by unfold sgn; split <;> rfl
    rw [h00] at this
    rcases Int.mul_eq_zero.mp this with h | h
    · omega
    · have := K_pos; omega
  | succ n => simp
theorem r_mod_fi (hx : x = hf a) (ha : Sm a) (hn : Sm n) (h0 : 0 < n) (h : Q (.float (hf (a % (2 * n))) s.toks) { s with toks := s.toks + 1 }) : wpAny (model prog w) A (binaryOp .Mod (.float x t) (.int n u)) Q E s := by
  subst hx
  refine AutoFloatOps.mod_fi_2 (Float64.ofInt_fits (by omega)) ?_ ?_
  · rw [ofInt_hf (by omega)]; exact isZero_hf (b := 2 * n) (by omega) (by omega)
  · rw [ofInt_hf (by omega), hf_mod (by omega) (by omega) (by omega)]
    exact h
theorem r_div_ii (ha : Sm a) (hb : Sm b) (h0 : 0 < b) (h : Q (.float (Float64.ofFrac (decide (a < 0) != decide (b < 0)) a.natAbs b.natAbs) s.toks) { s with toks := s.toks + 1 }) : wpAny (model prog w) A (binaryOp .Div (.int a t) (.int b u)) Q E s :=
  AutoIntOps.truediv_2 (by simp; omega) (PySem.Flt.quot_fits (by omega) (by omega)) h
theorem r_div_fi (hx : x = hf a) (hn : Sm n) (h0 : 0 < n) (h : Q (.float (Float64.div (hf a) (hf (2 * n))) s.toks) { s with toks := s.toks + 1 }) : wpAny (model prog w) A (binaryOp .Div (.float x t) (.int n u)) Q E s := by
  subst hx
  refine AutoFloatOps.truediv_fi_2 (Float64.ofInt_fits (by omega)) ?_ ?_
  · rw [ofInt_hf (by omega)]; exact isZero_hf (b := 2 * n) (by omega) (by omega)
  · rw [ofInt_hf (by omega)]; exact h
theorem r_div_ff (hx : x = hf a) (hy : y = hf b) (hb : Sm b) (h0 : 0 < b) (h : Q (.float (Float64.div (hf a) (hf b)) s.toks) { s with toks := s.toks + 1 }) : wpAny (model prog w) A (binaryOp .Div (.float x t) (.float y u)) Q E s := by
  subst hx; subst hy
  exact AutoFloatOps.truediv_1 (isZero_hf (by omega) h0) h
theorem floor_of {i : Int} (hA : A.handled = none) (hd : ∃ s m e, decode x = .fin s m e ∧ floorOf s m e = i) (h : Q (.int i s.toks) { s with toks := s.toks + 1 }) : wpAny (model prog w) A (call (.builtin "math.floor") [.float x t]) Q E s := by
  obtain ⟨sg, m, e, hd, hi⟩ := hd
  refine PySem.Flt.call_floor_float hA (fun g => ?_) (fun g => ?_) fun _ => ?_
  · unfold Float64.isNaN at g; rw [hd] at g; cases g
  · unfold Float64.isInf at g; rw [hd] at g; cases g
  · rw [PySem.Flt.toInt_fin hd, hi]; exact h
theorem r_floor_ii (hA : A.handled = none) (ha : Sm a) (hb : Sm b) (h0 : 0 < b) (h : Q (.int (a / b) s.toks) { s with toks := s.toks + 1 }) : wpAny (model prog w) A (call (.builtin "math.floor") [.float (Float64.ofFrac (decide (a < 0) != decide (b < 0)) a.natAbs b.natAbs) t]) Q E s :=
  floor_of hA (ii_floor h0 (by omega)) h
theorem r_floor_ff (hA : A.handled = none) (ha : Sm a) (hb : Sm b) (h0 : 0 < b) (h : Q (.int (a / b) s.toks) { s with toks := s.toks + 1 }) : wpAny (model prog w) A (call (.builtin "math.floor") [.float (Float64.div (hf a) (hf b)) t]) Q E s :=
  floor_of hA (ff_floor h0 (by omega)) h
theorem r_floor (hA : A.handled = none) (hx : x = hf a) (ha : Sm a) (h : Q (.int (a / 2) s.toks) { s with toks := s.toks + 1 }) : wpAny (model prog w) A (call (.builtin "math.floor") [.float x t]) Q E s := by
  subst hx
  exact floor_of hA (hf_floor (by omega)) h
theorem r_int (hx : x = hf a) (ha : Sm a) (h0 : 0 ≤ a) (h : Q (.int (a / 2) s.toks) { s with toks := s.toks + 1 }) : wpAny (model prog w) A (call (.type "int") [.float x t]) Q E s := by
  subst hx
  obtain ⟨sg, m, e, hd, hi⟩ := hf_trunc (n := a) (by omega) h0
  refine call_int_float hd ?_
  rw [hi]
  exact h

theorem cmp_lt {p q : Int} : (some (compare p q) == some Ordering.lt) = decide (p < q) := by
  rcases Int.lt_trichotomy p q with h | h | h
  · rw [Int.compare_eq_lt.mpr h, decide_eq_true h]; rfl
  · subst h; simp
  · rw [Int.compare_eq_gt.mpr h, decide_eq_false (by omega)]; rfl
theorem cmp_gt {p q : Int} : (some (compare p q) == some Ordering.gt) = decide (q < p) := by
  rcases Int.lt_trichotomy p q with h | h | h
  · rw [Int.compare_eq_lt.mpr h, decide_eq_false (by omega)]; rfl
  · subst h; simp
  · rw [Int.compare_eq_gt.mpr h, decide_eq_true (by omega)]; rfl
theorem cmp_eq {p q : Int} : (some (compare p q) == some Ordering.eq) = decide (p = q) := by
  rcases Int.lt_trichotomy p q with h | h | h
  · rw [Int.compare_eq_lt.mpr h, decide_eq_false (by omega)]; rfl
  · subst h; simp
  · rw [Int.compare_eq_gt.mpr h, decide_eq_false (by omega)]; rfl
theorem cmp_ge {p q : Int} : (some (compare p q) == some Ordering.gt || some (compare p q) == some Ordering.eq) = decide (q ≤ p) := by
  rw [cmp_gt, cmp_eq, ← Bool.decide_or]
  apply decide_eq_decide.mpr; omega
theorem cmp_ne {p q : Int} : (some (compare p q) != some Ordering.eq) = decide (p ≠ q) := by
  show (!(some (compare p q) == some Ordering.eq)) = _
  rw [cmp_eq]; simp

theorem r_lt_ff (hx : x = hf a) (hy : y = hf b) (ha : Sm a) (hb : Sm b) (h : Q (.bool (decide (a < b))) s) : wpAny (model prog w) A (compareOp .Lt (.float x t) (.float y u)) Q E s := by
  subst hx; subst hy
  refine AutoFloatOps.lt_0 ?_
  rw [hf_cmp (by omega) (by omega), cmp_lt]; exact h
theorem r_gt_ff (hx : x = hf a) (hy : y = hf b) (ha : Sm a) (hb : Sm b) (h : Q (.bool (decide (b < a))) s) : wpAny (model prog w) A (compareOp .Gt (.float x t) (.float y u)) Q E s := by
  subst hx; subst hy
  refine AutoFloatOps.gt_0 ?_
  rw [hf_cmp (by omega) (by omega), cmp_gt]; exact h
theorem r_ge_ff (hx : x = hf a) (hy : y = hf b) (ha : Sm a) (hb : Sm b) (h : Q (.bool (decide (b ≤ a))) s) : wpAny (model prog w) A (compareOp .GtE (.float x t) (.float y u)) Q E s := by
  subst hx; subst hy
  refine AutoFloatOps.ge_0 ?_
  rw [hf_cmp (by omega) (by omega), cmp_ge]; exact h
theorem r_lt_fi (hx : x = hf a) (ha : Sm a) (h : Q (.bool (decide (a < 2 * n))) s) : wpAny (model prog w) A (compareOp .Lt (.float x t) (.int n u)) Q E s := by
  subst hx
  refine lt_fi ?_
  rw [hf_cmpInt (by omega), cmp_lt]; exact h
theorem r_eq_fi (hx : x = hf a) (ha : Sm a) (h : Q (.bool (decide (a = 2 * n))) s) : wpAny (model prog w) A (compareOp .Eq (.float x t) (.int n u)) Q E s := by
  subst hx
  refine eq_fi ?_
  rw [hf_cmpInt (by omega), cmp_eq]; exact h
theorem r_ne_fi (hx : x = hf a) (ha : Sm a) (h : Q (.bool (decide (a ≠ 2 * n))) s) : wpAny (model prog w) A (compareOp .NotEq (.float x t) (.int n u)) Q E s := by
  subst hx
  refine ne_fi ?_
  rw [hf_cmpInt (by omega), cmp_ne]; exact h
/-- remainder and quotient by a positive int, as omega reads them -/
theorem r_mod_ii (h0 : 0 < b) (h : Q (.int (a % b) s.toks) { s with toks := s.toks + 1 }) : wpAny (model prog w) A (binaryOp .Mod (.int a t) (.int b u)) Q E s :=
  mod_int' (by omega) (by rw [Int.fmod_eq_emod_of_nonneg _ (by omega)]; exact h)
end
end Mine

namespace Mine
set_option exponentiation.threshold 3000
open PySem PySem.Float64 PySem.W PyProof.Rows
section
variable {prog : Program} {w : World} {A : Around} {E : Value → Shared → Prop} {s : Shared} {t u : Tok} {Q : Value → Shared → Prop} {a b : Int}
theorem r_divmod {h₀ : Heap} {L : Addr} {m : Str → Option Value} {news : List (Addr × Obj)} (F : Fr h₀ L s.heap m) (N : News h₀ L s.heap news) (hb : 0 < b)
    (h : ∀ (q r : Int) h', q = a / b → r = a % b → Fr h₀ L h' m → News h₀ L h' ((s.heap.objs.size, { cls := .type "tuple", data := .seq #[.int q s.toks, .int r (s.toks + 1)] }) :: news) →
      Q (.ref s.heap.objs.size) { s with toks := s.toks + 1 + 1, heap := h' })
    (hp : Builtin.divisionGoesByPylong a b = false ∨ PySem.PylongRoom (model prog w) A s) :
    wpAny (model prog w) A (call (.builtin "divmod") [.int a t, .int b u]) Q E s := by
  refine divmod_N F N (by omega) (fun h' F' N' => ?_) hp
  rw [Int.fdiv_eq_ediv_of_nonneg _ (by omega), Int.fmod_eq_emod_of_nonneg _ (by omega)] at N'
  exact h _ _ h' rfl rfl F' N'
end
end Mine

namespace Mine
set_option exponentiation.threshold 3000
open PySem PySem.Float64 PySem.W PyProof.Rows
section
variable {prog : Program} {w : World} {A : Around} {E : Value → Shared → Prop} {s : Shared} {t u : Tok} {Q : Value → Shared → Prop} {a b : Int}
theorem r_fdiv_ii (hA : A.handled = none) (h0 : 0 < b) (hp : Builtin.divisionGoesByPylong a b = false ∨ PySem.PylongRoom (model prog w) A s) (h : Q (.int (a / b) s.toks) { s with toks := s.toks + 1 }) :
    wpAny (model prog w) A (binaryOp .FloorDiv (.int a t) (.int b u)) Q E s :=
  floordiv_int_or hA (fun e => absurd e (by omega)) (fun _ => by rw [Int.fdiv_eq_ediv_of_nonneg _ (by omega)]; exact h) (fun _ => hp)
end
end Mine
namespace Mine
open PySem PySem.Float64 PySem.W PyProof.Rows PySem.Calls

/-- a call of the def at f with these arguments comes back with R, all that stood stands as it stood, and P is told -/
def Gives (prog : Program) (w : World) (K : Frag) (p : Program) (loose : List Str) (mean : ExcName → Option Value) (mg mb : Str → Option Value) (lv : Nat) (f : Addr) (vs : List Value) (P : Prop) (R : Tok → Value) : Prop :=
  ∀ (dp un : Nat) (gd : Option (List Code)) (cn : Str) (cs : Scope) (a : Addr) (ccd : Value) (cl : List (Str × Addr)) (outer : List Env) (A₀ : Around) (base h₀ : Heap) (L : Addr) (m : Str → Option Value) (s : Shared) (Q E : Value → Shared → Prop),
    Below A₀ base outer h₀ → Fr h₀ L s.heap m → K.In h₀ → Top p loose mean mg mb h₀ → cs.kind = .function →
    dp + lv < recursionLimit → un + 8 * lv < cLine →
    (∀ (t : Tok) (h' : Heap) (tk' : Nat), (∀ b o, s.heap.get? b = some o → h'.get? b = some o) → P → Q (R t) { s with heap := h', toks := tk' }) →
    wpAny (model prog w) (ktrTop dp un gd cn cs L a ccd cl outer) (call (.ref f) vs) Q E s

section
variable {prog : Program} {w : World} {K : Frag} {p : Program} {loose : List Str} {mean : ExcName → Option Value} {mg mb : Str → Option Value} {lv : Nat} {f : Addr} {vs : List Value} {P : Prop} {R : Tok → Value}
  {dp un : Nat} {gd : Option (List Code)} {cn : Str} {cs : Scope} {a : Addr} {ccd : Value} {cl : List (Str × Addr)} {outer : List Env} {A₀ : Around} {base h₀ : Heap} {L : Addr} {m : Str → Option Value} {news : List (Addr × Obj)} {s : Shared} {Q E : Value → Shared → Prop}
theorem Gives.use (C : Gives prog w K p loose mean mg mb lv f vs P R) (B : Below A₀ base outer h₀) (F : Fr h₀ L s.heap m) (X : K.In h₀) (N : News h₀ L s.heap news) (T : Top p loose mean mg mb h₀) (hk : cs.kind = .function)
    (hd : dp + lv < recursionLimit) (hu : un + 8 * lv < cLine)
    (ret : ∀ (t : Tok) (h' : Heap) (tk' : Nat), Fr h₀ L h' m → News h₀ L h' news → (∀ b o, s.heap.get? b = some o → h'.get? b = some o) → P → Q (R t) { s with heap := h', toks := tk' }) :
    wpAny (model prog w) (ktrTop dp un gd cn cs L a ccd cl outer) (call (.ref f) vs) Q E s :=
  C _ _ _ _ _ _ _ _ _ _ _ _ _ _ _ _ _ B F X T hk hd hu fun t h' tk' st p => ret t h' tk' (F.keeps st) (News.grown N st) st p
theorem g_end {g h' : Heap} {L' : Addr} {m' : Str → Option Value} {tk' : Nat} {v : Value} (hret : ∀ (t : Tok) (h' : Heap) (tk' : Nat), (∀ b o, s.heap.get? b = some o → h'.get? b = some o) → P → Q (R t) { s with heap := h', toks := tk' }) (t : Tok) (e : v = R t)
    (G : GSub s.heap g []) (F : Fr g L' h' m') (p : P) : Q v { s with heap := h', toks := tk' } := by
  subst e
  exact hret t h' tk' (fun b o e => F.keep b o (G b o e (nomatch ·))) p
theorem InElt.then {s₂ H h' : Heap} (E : InElt s₂ H) (st : ∀ b o, H.get? b = some o → h'.get? b = some o) : InElt s₂ h' := fun b o e => st b o (E b o e)
end
end Mine
namespace Mine
open PySem PySem.Float64 PySem.W PyProof.Rows PySem.Calls

/-- the end of a turn that adds to one float name -/
def TEnd (h₀ : Heap) (L : Addr) (x nm : Str) (m₀ : Str → Option Value) (c : Int) (news : List (Addr × Obj)) (s₁ : Shared) (f : Flow) (s₂ : Shared) : Prop :=
  f = .next ∧ ∃ h' tk tc m' news', s₂ = { s₁ with heap := h', toks := tk } ∧ Fr h₀ L h' m' ∧ News h₀ L h' news' ∧ (∀ p ∈ news, p ∈ news') ∧ m' nm = some (.float (hf c) tc) ∧ ∀ z, z ≠ x → z ≠ nm → m' z = m₀ z
theorem TEnd.intro {h₀ : Heap} {L : Addr} {x nm : Str} {m₀ m' : Str → Option Value} {c : Int} {news news' : List (Addr × Obj)} {s₁ : Shared} {h' : Heap} {tk : Nat} (F : Fr h₀ L h' m') (N : News h₀ L h' news') (hs : ∀ p ∈ news, p ∈ news')
    (hv : ∃ tc, m' nm = some (.float (hf c) tc)) (hr : ∀ z, z ≠ x → z ≠ nm → m' z = m₀ z) : TEnd h₀ L x nm m₀ c news s₁ .next { s₁ with heap := h', toks := tk } :=
  let ⟨tc, hv⟩ := hv
  ⟨rfl, h', tk, tc, m', news', rfl, F, N, hs, hv, hr⟩

section
variable {prog : Program} {w : World} {A : Around} {E : Value → Shared → Prop} {s : Shared} {env : Env} {h₀ : Heap} {x nm : Str} {body : List Stmt} {Q : Flow → Shared → Prop}
theorem jd_range {r : Addr} {a₀ b₀ : Int} {t₀ u₀ v₀ : Tok} {m₀ : Str → Option Value} {news : List (Addr × Obj)} {y : UInt64} {z : Int} {tz : Tok} (g : Int → Int)
    (hh : A.handled = none) (hr : IsRange s.heap r a₀ b₀ 1 t₀ u₀ v₀) (hsmall : Builtin.Range.small a₀ b₀ 1 = true) (F : Fr h₀ env.locals s.heap m₀) (N : News h₀ env.locals s.heap news)
    (hk : m₀ nm = some (.float y tz)) (hy : y = hf z) (hx : nm ≠ x) (hn : (b₀ - a₀).toNat ≤ 13) (hg : ∀ k, 29 ≤ g k ∧ g k ≤ 30)
    (turn : ∀ (c k : Int) (t tc : Tok) (h : Heap) (tk : Nat) (own : List (Addr × Obj)), a₀ ≤ k → k < b₀ → z ≤ c → c ≤ z + 780 →
      Fr h₀ env.locals h (fun v => if v = x then some (.int k t) else if v = nm then some (.float (hf c) tc) else m₀ v) → News h₀ env.locals h (news ++ own) →
      wpAny (model prog w) A (execs body env) (TEnd h₀ env.locals x nm m₀ (c + 2 * g k) (news ++ own) { s with heap := h, toks := tk }) E { s with heap := h, toks := tk })
    (done : ∀ (u : Option Value) (h : Heap) (tk : Nat) (tc : Tok) (S : Int), S = ((rangeKs a₀ (b₀ - a₀).toNat).map g).sum → 0 ≤ S → S ≤ 390 → Fr h₀ env.locals h (fun v => if v = x then u else if v = nm then some (.float (hf (z + 2 * S)) tc) else m₀ v) → News h₀ env.locals h news → Q .next { s with heap := h, toks := tk }) :
    wpAny (model prog w) A (pyIter (.ref r)) (fun it s₂ => LoopAtV prog w A h₀ env x body Q E it s₂) E s := by
  subst hy
  refine kst_range (σ := Int × Tok) (fun _ => news) (fun c => [(nm, .float (hf c.1) c.2)]) (fun _ => True) [] (fun pre c => c.1 = z + 2 * (pre.map g).sum ∧ 0 ≤ (pre.map g).sum ∧ (pre.map g).sum ≤ 30 * (pre.length : Int)) (z, tz)
    hh hr hsmall (rangeSize_nat _ _) F N trivial (fun p hp => by rw [List.mem_singleton.mp hp]; exact hk) (by simp) ?_ ?_
  · rintro ⟨c, tc⟩ pre k t u h tk own hk' hlt _ _ ⟨hc, hs0, hs1⟩ F₁ N₁
    dsimp only at hc F₁
    have hb := hg k
    refine wpAny_mono (turn c k t tc h tk own (by omega) (by omega) (by omega) (by omega) F₁ N₁) (fun f s₂ q => ?_) fun _ _ e => e
    obtain ⟨rfl, h', tk', tc', m', news', rfl, F', N', hs, hv, hr'⟩ := q
    refine InvEndN.intro F' N' (nx := news) ⟨(c + 2 * g k, tc'), rfl, trivial, fun p hp => by rw [List.mem_singleton.mp hp]; exact hv, fun v hv1 hv2 _ => hr' v hv1 (hv2 _ (.head _)), ?_⟩ rfl (fun p hp => hs p (List.mem_append_left _ hp)) (fun p hp => hs p (List.mem_append_right _ hp))
    dsimp only
    rw [List.map_append, List.sum_append]
    simp only [List.map_cons, List.map_nil, List.sum_cons, List.sum_nil, List.length_append, List.length_cons, List.length_nil]
    omega
  · rintro ⟨c, tc⟩ u h tk _ ⟨hc, hs0, hs1⟩ F₁ N₁
    dsimp only at hc F₁
    rw [rangeKs_length] at hs1
    refine done (u x) h tk tc _ rfl hs0 (by omega) ?_ N₁
    have e : (fun y => if y = x then u y else kstB (fun z => if ([] : List Str).contains z then u z else m₀ z) [(nm, .float (hf c) tc)] y) = fun v => if v = x then u x else if v = nm then some (.float (hf (z + 2 * ((rangeKs a₀ (b₀ - a₀).toNat).map g).sum)) tc) else m₀ v := by
      funext v
      rw [← hc]
      by_cases h1 : v = x
      · rw [if_pos h1, if_pos h1, h1]
      · rw [if_neg h1, if_neg h1]
        rfl
    rw [← e]
    exact F₁
end
end Mine

namespace Mine
open PySem PySem.Float64 PySem.W PyProof.Rows PySem.Calls
/-- the items of a made list of pairs of ints -/
inductive Rows (news : List (Addr × Obj)) : List Value → List (Int × Int) → Prop
  | nil : Rows news [] []
  | cons {T : Addr} {t1 t2 : Tok} {nn : Nat} {a b : Int} {vs : List Value} {ps : List (Int × Int)} : (T, ({ cls := .type "tuple", data := .seq #[.int a t1, .int b t2] nn } : Obj)) ∈ news → Rows news vs ps → Rows news (.ref T :: vs) ((a, b) :: ps)

/-- the end of a turn: the letter's int is c' with P c' of what is left -/
def REnd (h₀ : Heap) (L : Addr) (nm x1 x2 : Str) (m₀ : Str → Option Value) (P : Int → Prop) (news : List (Addr × Obj)) (s₁ : Shared) (Q : Flow → Shared → Prop) (f : Flow) (s₂ : Shared) : Prop :=
  match f with
  | .ret v => Q (.ret v) s₂
  | .brk => Q .next s₂
  | _ => ∃ h' tk c tc m' news', s₂ = { s₁ with heap := h', toks := tk } ∧ Fr h₀ L h' m' ∧ News h₀ L h' news' ∧ (∀ p ∈ news, p ∈ news') ∧ m' nm = some (.int c tc) ∧ P c ∧ ∀ z, z ≠ nm → z ≠ x1 → z ≠ x2 → m' z = m₀ z
theorem REnd.intro {h₀ : Heap} {L : Addr} {nm x1 x2 : Str} {m₀ m' : Str → Option Value} {P : Int → Prop} {news news' : List (Addr × Obj)} {s₁ : Shared} {h' : Heap} {tk : Nat} {Q : Flow → Shared → Prop} (c : Int) (F : Fr h₀ L h' m') (N : News h₀ L h' news') (hs : ∀ p ∈ news, p ∈ news')
    (hv : ∃ tc, m' nm = some (.int c tc)) (hp : P c) (hr : ∀ z, z ≠ nm → z ≠ x1 → z ≠ x2 → m' z = m₀ z) : REnd h₀ L nm x1 x2 m₀ P news s₁ Q .next { s₁ with heap := h', toks := tk } :=
  let ⟨tc, hv⟩ := hv
  ⟨h', tk, c, tc, m', news', rfl, F, N, hs, hv, hp, hr⟩

section
variable {prog : Program} {w : World} {A : Around} {E : Value → Shared → Prop} {s : Shared} {env : Env} {h₀ : Heap} {nm x1 x2 : Str} {target : Expr} {body : List Stmt} {Q : Flow → Shared → Prop}
def rowM (nm x1 x2 : Str) (m₀ u : Str → Option Value) (c : Int) (tc : Tok) : Str → Option Value := fun v => if v = nm then some (.int c tc) else if v = x1 then u x1 else if v = x2 then u x2 else m₀ v
theorem rowM_eq {m₀ m : Str → Option Value} {c : Int} {tc : Tok} (h1 : m nm = some (.int c tc)) (h2 : ∀ z, z ≠ nm → z ≠ x1 → z ≠ x2 → m z = m₀ z) : m = rowM nm x1 x2 m₀ m c tc := by
  funext v
  unfold rowM
  by_cases e : v = nm
  · rw [if_pos e, e, h1]
  · rw [if_neg e]
    by_cases e1 : v = x1
    · rw [if_pos e1, e1]
    · rw [if_neg e1]
      by_cases e2 : v = x2
      · rw [if_pos e2, e2]
      · rw [if_neg e2, h2 v e e1 e2]
theorem row_loop {ax : Addr} {lo : Obj} {vs : List Value} {n : Nat} {m₀ : Str → Option Value} {news : List (Addr × Obj)} {ps : List (Int × Int)} {c₀ : Int} {t₀ : Tok} (P : Int → List (Int × Int) → Prop)
    (hh : A.handled = none) (F : Fr h₀ env.locals s.heap m₀) (N : News h₀ env.locals s.heap news) (hm : (ax, lo) ∈ news) (hc : lo.cls = .type "list") (hd : lo.data = .seq vs.toArray n) (hr : Rows news vs ps)
    (hk : m₀ nm = some (.int c₀ t₀)) (hp : P c₀ ps)
    (turn : ∀ (c : Int) (tc : Tok) (a b : Int) (r : List (Int × Int)) (u : Str → Option Value) (T : Addr) (t1 t2 : Tok) (h : Heap) (tk : Nat) (own : List (Addr × Obj)), P c ((a, b) :: r) → IsTup h T #[.int a t1, .int b t2] →
      Fr h₀ env.locals h (fun v => if v = nm then some (.int c tc) else if v = x1 then u x1 else if v = x2 then u x2 else m₀ v) → News h₀ env.locals h (own ++ news) →
      wpAny (model prog w) A (assign target env (.ref T)) (fun _ s₂ => wpAny (model prog w) A (execs body env) (REnd h₀ env.locals nm x1 x2 m₀ (fun c' => P c' r) (own ++ news) { s with heap := h, toks := tk } Q) E s₂) E { s with heap := h, toks := tk })
    (done : ∀ (c : Int) (tc : Tok) (u : Str → Option Value) (h : Heap) (tk : Nat), P c [] → Fr h₀ env.locals h (fun v => if v = nm then some (.int c tc) else if v = x1 then u x1 else if v = x2 then u x2 else m₀ v) → News h₀ env.locals h news → Q .next { s with heap := h, toks := tk }) :
    wpAny (model prog w) A (pyIter (.ref ax)) (fun it s₂ => TurnsAt prog w A h₀ env target body Q E it s₂) E s := by
  refine iter_listTurns hh F N hm hc hd fun I hI => ?_
  have all : ∀ (vs : List Value) (ps : List (Int × Int)) (c : Int) (tc : Tok) (m : Str → Option Value), Rows news vs ps → m nm = some (.int c tc) → P c ps → (∀ z, z ≠ nm → z ≠ x1 → z ≠ x2 → m z = m₀ z) →
      ItemsRest prog w A E h₀ env target body Q s [(I, "list_iterator")] [(ax, lo)] (vs.map .val) m news := by
    intro vs
    induction vs with
    | nil =>
      intro ps c tc m hR hv hP hz
      cases hR
      refine ItemsRest.zero fun h tk F' N' => done c tc m h tk hP ?_ N'
      have e := rowM_eq hv hz
      unfold rowM at e
      rw [← e]
      exact F'
    | cons v r ih =>
      intro ps c tc m hR hv hP hz
      cases hR with
      | @cons T t1 t2 nn a b _ ps hT hR =>
        refine ItemsRest.val fun h tk F' => AllObj.cons fun it hit => AllObj.nil fun N' => ?_
        have hN := (N' _ (List.mem_append_right _ hT)).1
        have e := rowM_eq hv hz
        unfold rowM at e
        refine wpAny_mono (turn c tc a b ps m T t1 t2 h tk [(I, it)] hP ⟨_, hN, rfl, nn, rfl⟩ (by rw [← e]; exact F') N') (fun _ s₂ q => wpAny_mono q (fun f s₃ q => ?_) fun _ _ e => e) fun _ _ e => e
        have go : ∀ s₃, (∃ h' tk' c tc m' news', s₃ = { s with heap := h', toks := tk' } ∧ Fr h₀ env.locals h' m' ∧ News h₀ env.locals h' news' ∧ (∀ p ∈ [(I, it)] ++ news, p ∈ news') ∧ m' nm = some (.int c tc) ∧ P c ps ∧ ∀ z, z ≠ nm → z ≠ x1 → z ≠ x2 → m' z = m₀ z) →
            UnrEndW h₀ env.locals { s with heap := h, toks := tk } [(I, it)] (fun m' n' => SubL [(ax, lo)] n' ∧ ItemsRest prog w A E h₀ env target body Q s [(I, "list_iterator")] [(ax, lo)] (r.map .val) m' n') s₃ := by
          rintro s₃ ⟨h', tk', c', tc', m', news', rfl, F2, N2, hs, hv', hP', hz'⟩
          exact ⟨h', tk', m', news, rfl, F2, fun p hp => N2 p (hs p hp), fun p hp q hq => by rw [List.mem_singleton.mp hq]; exact Nat.ne_of_lt (hI p hp), ⟨hm, trivial⟩, ih ps c' tc' m' hR hv' hP' hz'⟩
        cases f with
        | ret v => exact q
        | brk => exact q
        | next => exact go s₃ q
        | cont => exact go s₃ q
  exact all vs ps c₀ t₀ m₀ hr hk hp fun _ _ _ _ => rfl
end
end Mine

namespace Mine
open PySem PySem.Float64 PySem.W PyProof.Rows PySem.Calls
theorem Rows.mono {news news' : List (Addr × Obj)} {vs : List Value} {ps : List (Int × Int)} (h : Rows news vs ps) (hs : ∀ p ∈ news, p ∈ news') : Rows news' vs ps := by
  induction h with
  | nil => exact .nil
  | cons hm _ ih => exact .cons (hs _ hm) ih
/-- a call of the def at f comes back with a new list of new pairs of ints -/
def GivesRow (prog : Program) (w : World) (K : Frag) (p : Program) (loose : List Str) (mean : ExcName → Option Value) (mg mb : Str → Option Value) (lv : Nat) (f : Addr) (vs : List Value) (ps : List (Int × Int)) : Prop :=
  ∀ (dp un : Nat) (gd : Option (List Code)) (cn : Str) (cs : Scope) (a : Addr) (ccd : Value) (cl : List (Str × Addr)) (outer : List Env) (A₀ : Around) (base h₀ : Heap) (L : Addr) (m : Str → Option Value) (s : Shared) (Q E : Value → Shared → Prop),
    Below A₀ base outer h₀ → Fr h₀ L s.heap m → K.In h₀ → Top p loose mean mg mb h₀ → cs.kind = .function →
    dp + lv < recursionLimit → un + 8 * lv < cLine →
    (∀ (ax : Addr) (lo : Obj) (ws : List Value) (n : Nat) (tl : List (Addr × Obj)) (h' : Heap) (tk' : Nat), (∀ b o, s.heap.get? b = some o → h'.get? b = some o) → News h₀ L h' tl → (ax, lo) ∈ tl → lo.cls = .type "list" → lo.data = .seq ws.toArray n → Rows tl ws ps → Q (.ref ax) { s with heap := h', toks := tk' }) →
    wpAny (model prog w) (ktrTop dp un gd cn cs L a ccd cl outer) (call (.ref f) vs) Q E s
section
variable {prog : Program} {w : World} {K : Frag} {p : Program} {loose : List Str} {mean : ExcName → Option Value} {mg mb : Str → Option Value} {lv : Nat} {f : Addr} {vs : List Value} {ps : List (Int × Int)}
  {dp un : Nat} {gd : Option (List Code)} {cn : Str} {cs : Scope} {a : Addr} {ccd : Value} {cl : List (Str × Addr)} {outer : List Env} {A₀ : Around} {base h₀ : Heap} {L : Addr} {m : Str → Option Value} {news : List (Addr × Obj)} {s : Shared} {Q E : Value → Shared → Prop}
theorem GivesRow.use (C : GivesRow prog w K p loose mean mg mb lv f vs ps) (B : Below A₀ base outer h₀) (F : Fr h₀ L s.heap m) (X : K.In h₀) (N : News h₀ L s.heap news) (T : Top p loose mean mg mb h₀) (hk : cs.kind = .function)
    (hd : dp + lv < recursionLimit) (hu : un + 8 * lv < cLine)
    (ret : ∀ (ax : Addr) (lo : Obj) (ws : List Value) (n : Nat) (tl : List (Addr × Obj)) (h' : Heap) (tk' : Nat), Fr h₀ L h' m → News h₀ L h' (tl ++ news) → (ax, lo) ∈ tl ++ news → lo.cls = .type "list" → lo.data = .seq ws.toArray n → Rows (tl ++ news) ws ps → Q (.ref ax) { s with heap := h', toks := tk' }) :
    wpAny (model prog w) (ktrTop dp un gd cn cs L a ccd cl outer) (call (.ref f) vs) Q E s :=
  C _ _ _ _ _ _ _ _ _ _ _ _ _ _ _ _ _ B F X T hk hd hu fun ax lo ws n tl h' tk' st N' hm hc hd hr => ret ax lo ws n tl h' tk' (F.keeps st) (fun p hp => (List.mem_append.mp hp).elim (N' p) (News.grown N st p)) (List.mem_append_left _ hm) hc hd (hr.mono fun _ h => List.mem_append_left _ h)
theorem row_end {g h' : Heap} {L' : Addr} {m' : Str → Option Value} {tk' : Nat} {ax : Addr} {lo : Obj} {ws : List Value} {n : Nat} {tl : List (Addr × Obj)}
    (hret : ∀ (ax : Addr) (lo : Obj) (ws : List Value) (n : Nat) (tl : List (Addr × Obj)) (h' : Heap) (tk' : Nat), (∀ b o, s.heap.get? b = some o → h'.get? b = some o) → News h₀ L h' tl → (ax, lo) ∈ tl → lo.cls = .type "list" → lo.data = .seq ws.toArray n → Rows tl ws ps → Q (.ref ax) { s with heap := h', toks := tk' })
    (G : GSub s.heap g []) (F : Fr g L' h' m') (N : News h₀ L h' tl) (hm : (ax, lo) ∈ tl) (hc : lo.cls = .type "list") (hd : lo.data = .seq ws.toArray n) (hr : Rows tl ws ps) : Q (.ref ax) { s with heap := h', toks := tk' } :=
  hret ax lo ws n tl h' tk' (fun b o e => F.keep b o (G b o e (nomatch ·))) N hm hc hd hr
end
end Mine
namespace Mine
open PySem PySem.W PyProof.Rows PySem.Calls
theorem fills_list_iadd : fillsInplaceSlot (.type "list") "add" true = pure false := by
  unfold fillsInplaceSlot
  show (typeLookup (.type "list") (dunderI "add") >>= fun fi => pure (fi.isSome && !isSeqSlot fi)) = pure false
  rw [F.slot_list_iadd.lookup, pure_bind]
  have e : isSeqSlot (some (.builtin "list.__iadd__")) = true := by decide +kernel
  rw [e]
  rfl
theorem seq_list_iadd : seqSlot? (.type "list") (dunderI "add") = pure (some (.builtin "list.__iadd__")) := PySem.seqSlot_of F.slot_list_iadd.lookup (by decide +kernel)
section
variable {prog : Program} {w : World} {A : Around} {E : Value → Shared → Prop} {s : Shared}
theorem iadd_list {l b : Addr} {its its2 : Array Value} {n n2 : Nat} {Q : Value → Shared → Prop} (hl : IsL s.heap l its n) (hb : IsL s.heap b its2 n2)
    (h : Q (.ref l) { s with heap := s.heap.update l (Obj.mapSeq fun x => x ++ its2) }) (hsz : its.size + its2.size ≤ sizeLine) : wpAny (model prog w) A (inplaceOp .Add (.ref l) (.ref b)) Q E s := by
  have ha : s.TypeIs (.ref l) "list" := ⟨_, hl, rfl⟩
  have hb' : s.TypeIs (.ref b) "list" := ⟨_, hb, rfl⟩
  unfold inplaceOp
  try with_reducible refine wpAny_holding ?_
  refine wpAny_bind (wpAny_typeOf ha (wpAny_bind (wpAny_of_eq fills_list_iadd ?_)))
  show wpAny _ A (if false = true then _ else _) Q E s
  rw [if_neg Bool.false_ne_true]
  refine wpAny_bind (wpAny_binaryOp1_none ha hb' noFill_list_add ?_)
  show wpAny _ A (seqSlot? (.type "list") (dunderI "add") >>= _) Q E s
  refine wpAny_bind (wpAny_of_eq seq_list_iadd ?_)
  exact wpAny_bind (wpAny_rule (call_meets (Q := Q) F.slot_list_iadd ha F.entry_list_iadd (F.args_list_iadd_2 _ _) (AutoSeq1.list___iadd___list_list_0 l its n b its2 n2 (extend_door hsz) (Nat.le_trans (Nat.le_add_right _ _) hsz) (Nat.le_trans hsz (Nat.le_succ _))) ⟨hl, hb, h⟩))
theorem iadd_in {h₀ : Heap} {L : Addr} {m : Str → Option Value} {D b : Addr} {ys zs : List Value} {n n2 : Nat} {news news' : List (Addr × Obj)} {Q : Value → Shared → Prop}
    (F : Fr h₀ L s.heap m) (N : News h₀ L s.heap news) (hm : (D, ({ cls := .type "list", data := .seq ys.toArray n } : Obj)) ∈ news)
    (hb : (b, ({ cls := .type "list", data := .seq zs.toArray n2 } : Obj)) ∈ news) (hsz : ys.length + zs.length ≤ sizeLine)
    (hU : Upd D ({ cls := .type "list", data := .seq ys.toArray n } : Obj) ({ cls := .type "list", data := .seq (ys ++ zs).toArray (if (ys.toArray ++ zs.toArray).size == ys.toArray.size then n else n + 1) } : Obj) news news')
    (h : ∀ h', Fr h₀ L h' m → News h₀ L h' news' → Q (.ref D) { s with heap := h' }) :
    wpAny (model prog w) A (inplaceOp .Add (.ref D) (.ref b)) Q E s := by
  have hD := N _ hm
  have hB := N _ hb
  refine iadd_list hD.1 hB.1 ?_ (by rw [List.size_toArray, List.size_toArray]; exact hsz)
  have e : ys.toArray ++ zs.toArray = (ys ++ zs).toArray := by simp
  have ho' : (s.heap.update D (Obj.mapSeq fun x => x ++ zs.toArray)).get? D = some { cls := .type "list", data := .seq (ys ++ zs).toArray (if (ys.toArray ++ zs.toArray).size == ys.toArray.size then n else n + 1) } := by
    rw [Heap.get?_update_self _ hD.1 (by rw [mapSeq_app]; rfl), mapSeq_app, e]
  refine h _ (F.change (Heap.SameBut.update ..) hD.2.1 hD.2.2) ?_
  obtain ⟨pre, post, rfl, rfl, h1, h2⟩ := hU.split
  have oth : ∀ p : Addr × Obj, p.1 ≠ D → (s.heap.update D (Obj.mapSeq fun x => x ++ zs.toArray)).get? p.1 = s.heap.get? p.1 := fun p hne => Heap.get?_update_other _ _ (Ne.symm hne)
  intro p hp
  rcases List.mem_append.mp hp with hp | hp
  · exact ⟨(oth p (h1 p hp)).trans (N p (List.mem_append_left _ hp)).1, (N p (List.mem_append_left _ hp)).2⟩
  · rcases List.mem_cons.mp hp with rfl | hp
    · exact ⟨ho', hD.2.1, hD.2.2⟩
    · have hp' : p ∈ pre ++ (D, ({ cls := .type "list", data := .seq ys.toArray n } : Obj)) :: post := List.mem_append_right _ (List.mem_cons_of_mem _ hp)
      exact ⟨(oth p (h2 p hp)).trans (N p hp').1, (N p hp').2⟩
end
end Mine

namespace Mine
open PySem PySem.W PyProof.Rows PySem.Calls
/-- where the ways of an expression meet in one int -/
def Meet (h₀ : Heap) (L : Addr) (m : Str → Option Value) (news : List (Addr × Obj)) (s : Shared) (P : Int → Prop) (v : Value) (s' : Shared) : Prop :=
  ∃ yr t h' tk', v = .int yr t ∧ s' = { s with heap := h', toks := tk' } ∧ Fr h₀ L h' m ∧ News h₀ L h' news ∧ P yr
theorem Meet.intro {h₀ : Heap} {L : Addr} {m : Str → Option Value} {news : List (Addr × Obj)} {s : Shared} {P : Int → Prop} {yr : Int} {t : Tok} {h' : Heap} {tk' : Nat} (F : Fr h₀ L h' m) (N : News h₀ L h' news) (p : P yr) : Meet h₀ L m news s P (.int yr t) { s with heap := h', toks := tk' } :=
  ⟨yr, t, h', tk', rfl, rfl, F, N, p⟩
section
variable {M : Model} {A : Around} {E : Value → Shared → Prop} {s : Shared} {h₀ : Heap} {L : Addr} {m : Str → Option Value} {news : List (Addr × Obj)} {tr : Sem Value} {Q : Value → Shared → Prop}
theorem meet_at (P : Int → Prop) (_F : Fr h₀ L s.heap m) (_N : News h₀ L s.heap news) (part : wpAny M A tr (Meet h₀ L m news s P) E s)
    (cont : ∀ (yr : Int) (t : Tok) (h' : Heap) (tk' : Nat), P yr → Fr h₀ L h' m → News h₀ L h' news → Q (.int yr t) { s with heap := h', toks := tk' }) : wpAny M A tr Q E s :=
  wpAny_mono part (fun v s' q => by
    obtain ⟨yr, t, h', tk', rfl, rfl, F', N', p⟩ := q
    exact cont yr t h' tk' p F' N') fun _ _ e => e
end
end Mine

namespace Mine
open PySem PySem.W PyProof.Rows PySem.Calls
structure MMark : Prop where
  mk :: (one : True)
theorem mmark : MMark := ⟨trivial⟩
end Mine
namespace Mine
open PySem PySem.W PyProof.Rows
def mth (y : Int) : Int := (235 * y - 234) / 19
def dd (y : Int) : Int := mth y * 29 + (12084 + 13753 * mth y) / 25920
def d1 (y : Int) : Int := if 3 * (dd y + 1) % 7 < 3 then dd y + 1 else dd y
def lp (y : Int) : Bool := decide ((y * 7 + 1) % 19 < 7)

def d2 (y : Int) : Int := if d1 (y + 1) - d1 y = 356 then 2 else if d1 y - d1 (y - 1) = 382 then 1 else 0

def ny (y : Int) : Int := 347996 + d1 y + d2 y

def ylen (y : Int) : Int := ny (y + 1) - ny y
def ml (y m : Int) : Int :=
  if m = 2 ∨ m = 4 ∨ m = 6 ∨ m = 10 ∨ m = 13 then 29 else if m = 12 ∧ lp y = false then 29 else if m = 8 ∧ ylen y % 10 ≠ 5 then 29 else if m = 9 ∧ ylen y % 10 = 3 then 29 else 30

def lng (y : Int) : Bool := decide (y % 19 = 0 ∨ y % 19 = 3 ∨ y % 19 = 6 ∨ y % 19 = 8 ∨ y % 19 = 11 ∨ y % 19 = 14 ∨ y % 19 = 17)
def Lg (y : Int) : Prop := y % 19 = 0 ∨ y % 19 = 3 ∨ y % 19 = 6 ∨ y % 19 = 8 ∨ y % 19 = 11 ∨ y % 19 = 14 ∨ y % 19 = 17
theorem lng_t {y : Int} (h : lng y = true) : Lg y := by simpa [lng, Lg] using h
theorem lng_f {y : Int} (h : lng y = false) : ¬ Lg y := by simpa [lng, Lg] using h
theorem any3_t {d : Int} (h : (([0, 3, 5] : List Int).any fun x => x == d) = true) : d = 0 ∨ d = 3 ∨ d = 5 := by simp at h; omega
theorem any3_f {d : Int} (h : (([0, 3, 5] : List Int).any fun x => x == d) = false) : d ≠ 0 ∧ d ≠ 3 ∧ d ≠ 5 := by simp at h; omega
def cnt (n : Nat) : Int := ↑(List.foldl (fun l' k' => if lng k' = true then l' ++ [k'] else if lng k' = false then l' else l') [] (rangeKs 1 n)).length
def mo (y : Int) : Int := 235 * ((y - 1) / 19) + 12 * ((y - 1) % 19) + cnt ((y - 1) % 19 + 1 - 1).toNat
/-- the day behind the four delays -/
def ldF (y d p : Int) : Int :=
  if 18 * 1080 ≤ p then d + 1 else if (y % 19 ≠ 0 ∧ y % 19 ≠ 3 ∧ y % 19 ≠ 6 ∧ y % 19 ≠ 8 ∧ y % 19 ≠ 11 ∧ y % 19 ≠ 14 ∧ y % 19 ≠ 17) ∧ d % 7 = 2 ∧ 9 * 1080 + 204 ≤ p then d + 1
  else if ((y - 1) % 19 = 0 ∨ (y - 1) % 19 = 3 ∨ (y - 1) % 19 = 6 ∨ (y - 1) % 19 = 8 ∨ (y - 1) % 19 = 11 ∨ (y - 1) % 19 = 14 ∨ (y - 1) % 19 = 17) ∧ d % 7 = 1 ∧ 15 * 1080 + 589 ≤ p then d + 1 else d
def lnyF (e : Int) : Int := 347997 + if e % 7 = 0 ∨ e % 7 = 3 ∨ e % 7 = 5 then e + 1 else e
def lny (y : Int) : Int := lnyF (ldF y ((31524 + 765433 * mo y) / 25920) ((31524 + 765433 * mo y) % 25920))
theorem ldF_eq {y d p e : Int} (h : (18 * 1080 ≤ p ∧ e = d + 1) ∨ (¬ 18 * 1080 ≤ p ∧ ((¬ Lg y ∧ d % 7 = 2 ∧ 9 * 1080 + 204 ≤ p ∧ e = d + 1) ∨ (¬ (¬ Lg y ∧ d % 7 = 2 ∧ 9 * 1080 + 204 ≤ p) ∧
    ((Lg (y - 1) ∧ d % 7 = 1 ∧ 15 * 1080 + 589 ≤ p ∧ e = d + 1) ∨ (¬ (Lg (y - 1) ∧ d % 7 = 1 ∧ 15 * 1080 + 589 ≤ p) ∧ e = d)))))) : e = ldF y d p := by
  unfold ldF Lg at *
  (repeat' split) <;> omega
def C2n (y d p : Int) : Prop := lng y = true ∨ ¬ d % 7 = 2 ∨ ¬ 9 * 1080 + 204 ≤ p
def C3n (y d p : Int) : Prop := lng (y - 1) = false ∨ ¬ d % 7 = 1 ∨ ¬ 15 * 1080 + 589 ≤ p
theorem c2n {y d p : Int} (h : C2n y d p) : ¬ (¬ Lg y ∧ d % 7 = 2 ∧ 9 * 1080 + 204 ≤ p) := by
  rcases h with h | h | h
  · exact fun g => g.1 (lng_t h)
  · omega
  · omega
theorem c3n {y d p : Int} (h : C3n y d p) : ¬ (Lg (y - 1) ∧ d % 7 = 1 ∧ 15 * 1080 + 589 ≤ p) := by
  rcases h with h | h | h
  · exact fun g => lng_f h g.1
  · omega
  · omega
theorem mo_is {y q r : Int} (hq : q = (y - 1) / 19) (hr : r = (y - 1) % 19) : 235 * q + 12 * r + ↑(List.foldl (fun l' k' => if lng k' = true then l' ++ [k'] else if lng k' = false then l' else l') [] (rangeKs 1 (r + 1 - 1).toNat)).length = mo y := by
  rw [hq, hr]; rfl
section
variable {y d p M : Int} (hd : d = (31524 + 765433 * M) / 25920) (hp : p = (31524 + 765433 * M) % 25920) (hM : M = mo y)
include hd hp hM
theorem lny_is : lny y = lnyF (ldF y d p) := by rw [hd, hp, hM]; rfl
theorem eAt (h1 : 18 * 1080 ≤ p) (h7 : (([0, 3, 5] : List Int).any fun x => x == (d + 1) % 7) = true) : 347997 + (d + 1 + 1) = lny y := by
  rw [lny_is hd hp hM, ← ldF_eq (.inl ⟨h1, rfl⟩)]
  have := any3_t h7
  unfold lnyF
  split <;> omega
theorem eAf (h1 : 18 * 1080 ≤ p) (h7 : (([0, 3, 5] : List Int).any fun x => x == (d + 1) % 7) = false) : 347997 + (d + 1) = lny y := by
  rw [lny_is hd hp hM, ← ldF_eq (.inl ⟨h1, rfl⟩)]
  have := any3_f h7
  unfold lnyF
  split <;> omega
theorem eBt (h1 : ¬ 18 * 1080 ≤ p) (h2 : lng y = false) (h3 : d % 7 = 2) (h4 : 9 * 1080 + 204 ≤ p) (h7 : (([0, 3, 5] : List Int).any fun x => x == (d + 1) % 7) = true) : 347997 + (d + 1 + 1) = lny y := by
  rw [lny_is hd hp hM, ← ldF_eq (.inr ⟨h1, .inl ⟨lng_f h2, h3, h4, rfl⟩⟩)]
  have := any3_t h7
  unfold lnyF
  split <;> omega
theorem eBf (h1 : ¬ 18 * 1080 ≤ p) (h2 : lng y = false) (h3 : d % 7 = 2) (h4 : 9 * 1080 + 204 ≤ p) (h7 : (([0, 3, 5] : List Int).any fun x => x == (d + 1) % 7) = false) : 347997 + (d + 1) = lny y := by
  rw [lny_is hd hp hM, ← ldF_eq (.inr ⟨h1, .inl ⟨lng_f h2, h3, h4, rfl⟩⟩)]
  have := any3_f h7
  unfold lnyF
  split <;> omega
theorem eCt (h1 : ¬ 18 * 1080 ≤ p) (h5 : C2n y d p) (h2 : lng (y - 1) = true) (h3 : d % 7 = 1) (h4 : 15 * 1080 + 589 ≤ p) (h7 : (([0, 3, 5] : List Int).any fun x => x == (d + 1) % 7) = true) : 347997 + (d + 1 + 1) = lny y := by
  rw [lny_is hd hp hM, ← ldF_eq (.inr ⟨h1, .inr ⟨c2n h5, .inl ⟨lng_t h2, h3, h4, rfl⟩⟩⟩)]
  have := any3_t h7
  unfold lnyF
  split <;> omega
theorem eCf (h1 : ¬ 18 * 1080 ≤ p) (h5 : C2n y d p) (h2 : lng (y - 1) = true) (h3 : d % 7 = 1) (h4 : 15 * 1080 + 589 ≤ p) (h7 : (([0, 3, 5] : List Int).any fun x => x == (d + 1) % 7) = false) : 347997 + (d + 1) = lny y := by
  rw [lny_is hd hp hM, ← ldF_eq (.inr ⟨h1, .inr ⟨c2n h5, .inl ⟨lng_t h2, h3, h4, rfl⟩⟩⟩)]
  have := any3_f h7
  unfold lnyF
  split <;> omega
theorem eDt (h1 : ¬ 18 * 1080 ≤ p) (h5 : C2n y d p) (h6 : C3n y d p) (h7 : (([0, 3, 5] : List Int).any fun x => x == (d) % 7) = true) : 347997 + (d + 1) = lny y := by
  rw [lny_is hd hp hM, ← ldF_eq (.inr ⟨h1, .inr ⟨c2n h5, .inr ⟨c3n h6, rfl⟩⟩⟩)]
  have := any3_t h7
  unfold lnyF
  split <;> omega
theorem eDf (h1 : ¬ 18 * 1080 ≤ p) (h5 : C2n y d p) (h6 : C3n y d p) (h7 : (([0, 3, 5] : List Int).any fun x => x == (d) % 7) = false) : 347997 + d = lny y := by
  rw [lny_is hd hp hM, ← ldF_eq (.inr ⟨h1, .inr ⟨c2n h5, .inr ⟨c3n h6, rfl⟩⟩⟩)]
  have := any3_f h7
  unfold lnyF
  split <;> omega
theorem eBn (h1 : ¬ 18 * 1080 ≤ p) (h2 : lng y = false) (h3 : d % 7 = 2) (h4 : 9 * 1080 + 204 ≤ p) : 347997 + (d + 1 + 1) = lny y := by
  rw [lny_is hd hp hM, ← ldF_eq (.inr ⟨h1, .inl ⟨lng_f h2, h3, h4, rfl⟩⟩)]
  unfold lnyF
  split <;> omega
theorem eCn (h1 : ¬ 18 * 1080 ≤ p) (h5 : C2n y d p) (h2 : lng (y - 1) = true) (h3 : d % 7 = 1) (h4 : 15 * 1080 + 589 ≤ p) : 347997 + (d + 1) = lny y := by
  rw [lny_is hd hp hM, ← ldF_eq (.inr ⟨h1, .inr ⟨c2n h5, .inl ⟨lng_t h2, h3, h4, rfl⟩⟩⟩)]
  unfold lnyF
  split <;> omega
end

theorem no21 {d : Int} {P : Prop} (h : d % 7 = 2) (g : d % 7 = 1) : P := by omega
theorem ml_bnd (y m : Int) : 29 ≤ ml y m ∧ ml y m ≤ 30 := by
  unfold ml
  (repeat' split) <;> omega
def sg (y a : Int) (n : Nat) : Int := ((rangeKs a n).map (ml y)).sum
def off (y m : Int) : Int := if m < 7 then sg y 7 ((if lp y then (13 : Int) else 12) + 1 - 7).toNat + sg y 1 (m - 1).toNat else sg y 7 (m - 7).toNat
/-- the day of the conjunction, from 18 hours on the next one -/
def eE (X : Int) : Int := (X + 6480) / 25920
def aA (X : Int) : Int := if eE X % 7 = 0 ∨ eE X % 7 = 3 ∨ eE X % 7 = 5 then eE X + 1 else eE X
def zZ (d : Int) : Int := if d % 7 = 0 ∨ d % 7 = 3 ∨ d % 7 = 5 then d + 1 else d
theorem aA_lo (X d p : Int) (hX : X = 25920 * d + p) (h0 : 0 ≤ p) (h1 : p < 19440) : aA X = zZ d := by
  have e : eE X = d := by unfold eE; omega
  unfold aA zZ
  rw [e]
theorem aA_hi (X d p : Int) (hX : X = 25920 * d + p) (h0 : 19440 ≤ p) (h1 : p < 25920) : aA X = zZ (d + 1) := by
  have e : eE X = d + 1 := by unfold eE; omega
  unfold aA zZ
  rw [e]
theorem zZ_t (d : Int) (h : d % 7 = 0 ∨ d % 7 = 3 ∨ d % 7 = 5) : zZ d = d + 1 := if_pos h
theorem zZ_f (d : Int) (h : ¬ (d % 7 = 0 ∨ d % 7 = 3 ∨ d % 7 = 5)) : zZ d = d := if_neg h
def wW (X a b : Int) : Int := aA X + (if aA (X + 765433 * a) - aA X = 356 then 2 else if aA X - aA (X - 765433 * b) = 382 then 1 else 0)
def vV (a b D P : Int) : Int :=
  zZ (if 18 * 1080 ≤ P then D + 1 else if a = 12 ∧ D % 7 = 2 ∧ 9 * 1080 + 204 ≤ P then D + 1 else if b = 13 ∧ D % 7 = 1 ∧ 15 * 1080 + 589 ≤ P then D + 1 else D)
theorem core_12_12_0 (D P : Int) (h0 : 0 ≤ P) (h1 : P < 3036) : wW (25920 * D + P) 12 12 = vV 12 12 D P := by
  have hr : D % 7 = 0 ∨ D % 7 = 1 ∨ D % 7 = 2 ∨ D % 7 = 3 ∨ D % 7 = 4 ∨ D % 7 = 5 ∨ D % 7 = 6 := by omega
  unfold wW vV
  rw [aA_lo (25920 * D + P) (D + 0) (25920 * D + P - 25920 * (D + 0)) (by omega) (by omega) (by omega), aA_lo (25920 * D + P + 765433 * 12) (D + 354) (25920 * D + P + 765433 * 12 - 25920 * (D + 354)) (by omega) (by omega) (by omega), aA_lo (25920 * D + P - 765433 * 12) (D - 355) (25920 * D + P - 765433 * 12 - 25920 * (D - 355)) (by omega) (by omega) (by omega)]
  rcases hr with hr | hr | hr | hr | hr | hr | hr
  · rw [zZ_t (D + 0) (by omega), zZ_f (D + 354) (by omega), zZ_f (D - 355) (by omega), if_neg (by omega), if_neg (by omega), if_neg (by omega), if_neg (by omega), if_neg (by omega), zZ_t D (by omega)]; omega
  · rw [zZ_f (D + 0) (by omega), zZ_t (D + 354) (by omega), zZ_t (D - 355) (by omega), if_neg (by omega), if_neg (by omega), if_neg (by omega), if_neg (by omega), if_neg (by omega), zZ_f D (by omega)]; omega
  · rw [zZ_f (D + 0) (by omega), zZ_f (D + 354) (by omega), zZ_f (D - 355) (by omega), if_neg (by omega), if_neg (by omega), if_neg (by omega), if_neg (by omega), if_neg (by omega), zZ_f D (by omega)]; omega
  · rw [zZ_t (D + 0) (by omega), zZ_t (D + 354) (by omega), zZ_t (D - 355) (by omega), if_neg (by omega), if_neg (by omega), if_neg (by omega), if_neg (by omega), if_neg (by omega), zZ_t D (by omega)]; omega
  · rw [zZ_f (D + 0) (by omega), zZ_f (D + 354) (by omega), zZ_f (D - 355) (by omega), if_neg (by omega), if_neg (by omega), if_neg (by omega), if_neg (by omega), if_neg (by omega), zZ_f D (by omega)]; omega
  · rw [zZ_t (D + 0) (by omega), zZ_f (D + 354) (by omega), zZ_t (D - 355) (by omega), if_neg (by omega), if_neg (by omega), if_neg (by omega), if_neg (by omega), if_neg (by omega), zZ_t D (by omega)]; omega
  · rw [zZ_f (D + 0) (by omega), zZ_t (D + 354) (by omega), zZ_f (D - 355) (by omega), if_neg (by omega), if_neg (by omega), if_neg (by omega), if_neg (by omega), if_neg (by omega), zZ_f D (by omega)]; omega
theorem core_12_12_1 (D P : Int) (h0 : 3036 ≤ P) (h1 : P < 9516) : wW (25920 * D + P) 12 12 = vV 12 12 D P := by
  have hr : D % 7 = 0 ∨ D % 7 = 1 ∨ D % 7 = 2 ∨ D % 7 = 3 ∨ D % 7 = 4 ∨ D % 7 = 5 ∨ D % 7 = 6 := by omega
  unfold wW vV
  rw [aA_lo (25920 * D + P) (D + 0) (25920 * D + P - 25920 * (D + 0)) (by omega) (by omega) (by omega), aA_lo (25920 * D + P + 765433 * 12) (D + 354) (25920 * D + P + 765433 * 12 - 25920 * (D + 354)) (by omega) (by omega) (by omega), aA_hi (25920 * D + P - 765433 * 12) (D - 355) (25920 * D + P - 765433 * 12 - 25920 * (D - 355)) (by omega) (by omega) (by omega)]
  rcases hr with hr | hr | hr | hr | hr | hr | hr
  · rw [zZ_t (D + 0) (by omega), zZ_f (D + 354) (by omega), zZ_t (D - 355 + 1) (by omega), if_neg (by omega), if_neg (by omega), if_neg (by omega), if_neg (by omega), if_neg (by omega), zZ_t D (by omega)]; omega
  · rw [zZ_f (D + 0) (by omega), zZ_t (D + 354) (by omega), zZ_f (D - 355 + 1) (by omega), if_neg (by omega), if_neg (by omega), if_neg (by omega), if_neg (by omega), if_neg (by omega), zZ_f D (by omega)]; omega
  · rw [zZ_f (D + 0) (by omega), zZ_f (D + 354) (by omega), zZ_t (D - 355 + 1) (by omega), if_neg (by omega), if_neg (by omega), if_neg (by omega), if_neg (by omega), if_neg (by omega), zZ_f D (by omega)]; omega
  · rw [zZ_t (D + 0) (by omega), zZ_t (D + 354) (by omega), zZ_f (D - 355 + 1) (by omega), if_neg (by omega), if_neg (by omega), if_neg (by omega), if_neg (by omega), if_neg (by omega), zZ_t D (by omega)]; omega
  · rw [zZ_f (D + 0) (by omega), zZ_f (D + 354) (by omega), zZ_t (D - 355 + 1) (by omega), if_neg (by omega), if_neg (by omega), if_neg (by omega), if_neg (by omega), if_neg (by omega), zZ_f D (by omega)]; omega
  · rw [zZ_t (D + 0) (by omega), zZ_f (D + 354) (by omega), zZ_f (D - 355 + 1) (by omega), if_neg (by omega), if_neg (by omega), if_neg (by omega), if_neg (by omega), if_neg (by omega), zZ_t D (by omega)]; omega
  · rw [zZ_f (D + 0) (by omega), zZ_t (D + 354) (by omega), zZ_f (D - 355 + 1) (by omega), if_neg (by omega), if_neg (by omega), if_neg (by omega), if_neg (by omega), if_neg (by omega), zZ_f D (by omega)]; omega
theorem core_12_12_2 (D P : Int) (h0 : 9516 ≤ P) (h1 : P < 9924) : wW (25920 * D + P) 12 12 = vV 12 12 D P := by
  have hr : D % 7 = 0 ∨ D % 7 = 1 ∨ D % 7 = 2 ∨ D % 7 = 3 ∨ D % 7 = 4 ∨ D % 7 = 5 ∨ D % 7 = 6 := by omega
  unfold wW vV
  rw [aA_lo (25920 * D + P) (D + 0) (25920 * D + P - 25920 * (D + 0)) (by omega) (by omega) (by omega), aA_lo (25920 * D + P + 765433 * 12) (D + 354) (25920 * D + P + 765433 * 12 - 25920 * (D + 354)) (by omega) (by omega) (by omega), aA_lo (25920 * D + P - 765433 * 12) (D - 354) (25920 * D + P - 765433 * 12 - 25920 * (D - 354)) (by omega) (by omega) (by omega)]
  rcases hr with hr | hr | hr | hr | hr | hr | hr
  · rw [zZ_t (D + 0) (by omega), zZ_f (D + 354) (by omega), zZ_t (D - 354) (by omega), if_neg (by omega), if_neg (by omega), if_neg (by omega), if_neg (by omega), if_neg (by omega), zZ_t D (by omega)]; omega
  · rw [zZ_f (D + 0) (by omega), zZ_t (D + 354) (by omega), zZ_f (D - 354) (by omega), if_neg (by omega), if_neg (by omega), if_neg (by omega), if_neg (by omega), if_neg (by omega), zZ_f D (by omega)]; omega
  · rw [zZ_f (D + 0) (by omega), zZ_f (D + 354) (by omega), zZ_t (D - 354) (by omega), if_neg (by omega), if_neg (by omega), if_neg (by omega), if_neg (by omega), if_neg (by omega), zZ_f D (by omega)]; omega
  · rw [zZ_t (D + 0) (by omega), zZ_t (D + 354) (by omega), zZ_f (D - 354) (by omega), if_neg (by omega), if_neg (by omega), if_neg (by omega), if_neg (by omega), if_neg (by omega), zZ_t D (by omega)]; omega
  · rw [zZ_f (D + 0) (by omega), zZ_f (D + 354) (by omega), zZ_t (D - 354) (by omega), if_neg (by omega), if_neg (by omega), if_neg (by omega), if_neg (by omega), if_neg (by omega), zZ_f D (by omega)]; omega
  · rw [zZ_t (D + 0) (by omega), zZ_f (D + 354) (by omega), zZ_f (D - 354) (by omega), if_neg (by omega), if_neg (by omega), if_neg (by omega), if_neg (by omega), if_neg (by omega), zZ_t D (by omega)]; omega
  · rw [zZ_f (D + 0) (by omega), zZ_t (D + 354) (by omega), zZ_f (D - 354) (by omega), if_neg (by omega), if_neg (by omega), if_neg (by omega), if_neg (by omega), if_neg (by omega), zZ_f D (by omega)]; omega
theorem core_12_12_3 (D P : Int) (h0 : 9924 ≤ P) (h1 : P < 16404) : wW (25920 * D + P) 12 12 = vV 12 12 D P := by
  have hr : D % 7 = 0 ∨ D % 7 = 1 ∨ D % 7 = 2 ∨ D % 7 = 3 ∨ D % 7 = 4 ∨ D % 7 = 5 ∨ D % 7 = 6 := by omega
  unfold wW vV
  rw [aA_lo (25920 * D + P) (D + 0) (25920 * D + P - 25920 * (D + 0)) (by omega) (by omega) (by omega), aA_hi (25920 * D + P + 765433 * 12) (D + 354) (25920 * D + P + 765433 * 12 - 25920 * (D + 354)) (by omega) (by omega) (by omega), aA_lo (25920 * D + P - 765433 * 12) (D - 354) (25920 * D + P - 765433 * 12 - 25920 * (D - 354)) (by omega) (by omega) (by omega)]
  rcases hr with hr | hr | hr | hr | hr | hr | hr
  · rw [zZ_t (D + 0) (by omega), zZ_t (D + 354 + 1) (by omega), zZ_t (D - 354) (by omega), if_neg (by omega), if_neg (by omega), if_neg (by omega), if_neg (by omega), if_neg (by omega), zZ_t D (by omega)]; omega
  · rw [zZ_f (D + 0) (by omega), zZ_f (D + 354 + 1) (by omega), zZ_f (D - 354) (by omega), if_neg (by omega), if_neg (by omega), if_neg (by omega), if_neg (by omega), if_neg (by omega), zZ_f D (by omega)]; omega
  · rw [zZ_f (D + 0) (by omega), zZ_t (D + 354 + 1) (by omega), zZ_t (D - 354) (by omega), if_pos (by omega), if_neg (by omega), if_pos (by omega), zZ_t (D + 1) (by omega)]; omega
  · rw [zZ_t (D + 0) (by omega), zZ_f (D + 354 + 1) (by omega), zZ_f (D - 354) (by omega), if_neg (by omega), if_neg (by omega), if_neg (by omega), if_neg (by omega), if_neg (by omega), zZ_t D (by omega)]; omega
  · rw [zZ_f (D + 0) (by omega), zZ_f (D + 354 + 1) (by omega), zZ_t (D - 354) (by omega), if_neg (by omega), if_neg (by omega), if_neg (by omega), if_neg (by omega), if_neg (by omega), zZ_f D (by omega)]; omega
  · rw [zZ_t (D + 0) (by omega), zZ_t (D + 354 + 1) (by omega), zZ_f (D - 354) (by omega), if_neg (by omega), if_neg (by omega), if_neg (by omega), if_neg (by omega), if_neg (by omega), zZ_t D (by omega)]; omega
  · rw [zZ_f (D + 0) (by omega), zZ_f (D + 354 + 1) (by omega), zZ_f (D - 354) (by omega), if_neg (by omega), if_neg (by omega), if_neg (by omega), if_neg (by omega), if_neg (by omega), zZ_f D (by omega)]; omega
theorem core_12_12_4 (D P : Int) (h0 : 16404 ≤ P) (h1 : P < 19440) : wW (25920 * D + P) 12 12 = vV 12 12 D P := by
  have hr : D % 7 = 0 ∨ D % 7 = 1 ∨ D % 7 = 2 ∨ D % 7 = 3 ∨ D % 7 = 4 ∨ D % 7 = 5 ∨ D % 7 = 6 := by omega
  unfold wW vV
  rw [aA_lo (25920 * D + P) (D + 0) (25920 * D + P - 25920 * (D + 0)) (by omega) (by omega) (by omega), aA_lo (25920 * D + P + 765433 * 12) (D + 355) (25920 * D + P + 765433 * 12 - 25920 * (D + 355)) (by omega) (by omega) (by omega), aA_lo (25920 * D + P - 765433 * 12) (D - 354) (25920 * D + P - 765433 * 12 - 25920 * (D - 354)) (by omega) (by omega) (by omega)]
  rcases hr with hr | hr | hr | hr | hr | hr | hr
  · rw [zZ_t (D + 0) (by omega), zZ_t (D + 355) (by omega), zZ_t (D - 354) (by omega), if_neg (by omega), if_neg (by omega), if_neg (by omega), if_neg (by omega), if_neg (by omega), zZ_t D (by omega)]; omega
  · rw [zZ_f (D + 0) (by omega), zZ_f (D + 355) (by omega), zZ_f (D - 354) (by omega), if_neg (by omega), if_neg (by omega), if_neg (by omega), if_neg (by omega), if_neg (by omega), zZ_f D (by omega)]; omega
  · rw [zZ_f (D + 0) (by omega), zZ_t (D + 355) (by omega), zZ_t (D - 354) (by omega), if_pos (by omega), if_neg (by omega), if_pos (by omega), zZ_t (D + 1) (by omega)]; omega
  · rw [zZ_t (D + 0) (by omega), zZ_f (D + 355) (by omega), zZ_f (D - 354) (by omega), if_neg (by omega), if_neg (by omega), if_neg (by omega), if_neg (by omega), if_neg (by omega), zZ_t D (by omega)]; omega
  · rw [zZ_f (D + 0) (by omega), zZ_f (D + 355) (by omega), zZ_t (D - 354) (by omega), if_neg (by omega), if_neg (by omega), if_neg (by omega), if_neg (by omega), if_neg (by omega), zZ_f D (by omega)]; omega
  · rw [zZ_t (D + 0) (by omega), zZ_t (D + 355) (by omega), zZ_f (D - 354) (by omega), if_neg (by omega), if_neg (by omega), if_neg (by omega), if_neg (by omega), if_neg (by omega), zZ_t D (by omega)]; omega
  · rw [zZ_f (D + 0) (by omega), zZ_f (D + 355) (by omega), zZ_f (D - 354) (by omega), if_neg (by omega), if_neg (by omega), if_neg (by omega), if_neg (by omega), if_neg (by omega), zZ_f D (by omega)]; omega
theorem core_12_12_5 (D P : Int) (h0 : 19440 ≤ P) (h1 : P < 25920) : wW (25920 * D + P) 12 12 = vV 12 12 D P := by
  have hr : D % 7 = 0 ∨ D % 7 = 1 ∨ D % 7 = 2 ∨ D % 7 = 3 ∨ D % 7 = 4 ∨ D % 7 = 5 ∨ D % 7 = 6 := by omega
  unfold wW vV
  rw [aA_hi (25920 * D + P) (D + 0) (25920 * D + P - 25920 * (D + 0)) (by omega) (by omega) (by omega), aA_lo (25920 * D + P + 765433 * 12) (D + 355) (25920 * D + P + 765433 * 12 - 25920 * (D + 355)) (by omega) (by omega) (by omega), aA_lo (25920 * D + P - 765433 * 12) (D - 354) (25920 * D + P - 765433 * 12 - 25920 * (D - 354)) (by omega) (by omega) (by omega)]
  rcases hr with hr | hr | hr | hr | hr | hr | hr
  · rw [zZ_f (D + 0 + 1) (by omega), zZ_t (D + 355) (by omega), zZ_t (D - 354) (by omega), if_neg (by omega), if_neg (by omega), if_pos (by omega), zZ_f (D + 1) (by omega)]; omega
  · rw [zZ_f (D + 0 + 1) (by omega), zZ_f (D + 355) (by omega), zZ_f (D - 354) (by omega), if_neg (by omega), if_neg (by omega), if_pos (by omega), zZ_f (D + 1) (by omega)]; omega
  · rw [zZ_t (D + 0 + 1) (by omega), zZ_t (D + 355) (by omega), zZ_t (D - 354) (by omega), if_neg (by omega), if_neg (by omega), if_pos (by omega), zZ_t (D + 1) (by omega)]; omega
  · rw [zZ_f (D + 0 + 1) (by omega), zZ_f (D + 355) (by omega), zZ_f (D - 354) (by omega), if_neg (by omega), if_neg (by omega), if_pos (by omega), zZ_f (D + 1) (by omega)]; omega
  · rw [zZ_t (D + 0 + 1) (by omega), zZ_f (D + 355) (by omega), zZ_t (D - 354) (by omega), if_neg (by omega), if_neg (by omega), if_pos (by omega), zZ_t (D + 1) (by omega)]; omega
  · rw [zZ_f (D + 0 + 1) (by omega), zZ_t (D + 355) (by omega), zZ_f (D - 354) (by omega), if_neg (by omega), if_neg (by omega), if_pos (by omega), zZ_f (D + 1) (by omega)]; omega
  · rw [zZ_t (D + 0 + 1) (by omega), zZ_f (D + 355) (by omega), zZ_f (D - 354) (by omega), if_neg (by omega), if_neg (by omega), if_pos (by omega), zZ_t (D + 1) (by omega)]; omega
theorem core_12_12 (D P : Int) (h0 : 0 ≤ P) (h1 : P < 25920) : wW (25920 * D + P) 12 12 = vV 12 12 D P := by
  by_cases c0 : P < 3036
  · exact core_12_12_0 D P (by omega) c0
  by_cases c1 : P < 9516
  · exact core_12_12_1 D P (by omega) c1
  by_cases c2 : P < 9924
  · exact core_12_12_2 D P (by omega) c2
  by_cases c3 : P < 16404
  · exact core_12_12_3 D P (by omega) c3
  by_cases c4 : P < 19440
  · exact core_12_12_4 D P (by omega) c4
  exact core_12_12_5 D P (by omega) h1
theorem core_12_13_0 (D P : Int) (h0 : 0 ≤ P) (h1 : P < 9924) : wW (25920 * D + P) 12 13 = vV 12 13 D P := by
  have hr : D % 7 = 0 ∨ D % 7 = 1 ∨ D % 7 = 2 ∨ D % 7 = 3 ∨ D % 7 = 4 ∨ D % 7 = 5 ∨ D % 7 = 6 := by omega
  unfold wW vV
  rw [aA_lo (25920 * D + P) (D + 0) (25920 * D + P - 25920 * (D + 0)) (by omega) (by omega) (by omega), aA_lo (25920 * D + P + 765433 * 12) (D + 354) (25920 * D + P + 765433 * 12 - 25920 * (D + 354)) (by omega) (by omega) (by omega), aA_lo (25920 * D + P - 765433 * 13) (D - 384) (25920 * D + P - 765433 * 13 - 25920 * (D - 384)) (by omega) (by omega) (by omega)]
  rcases hr with hr | hr | hr | hr | hr | hr | hr
  · rw [zZ_t (D + 0) (by omega), zZ_f (D + 354) (by omega), zZ_f (D - 384) (by omega), if_neg (by omega), if_neg (by omega), if_neg (by omega), if_neg (by omega), if_neg (by omega), zZ_t D (by omega)]; omega
  · rw [zZ_f (D + 0) (by omega), zZ_t (D + 354) (by omega), zZ_f (D - 384) (by omega), if_neg (by omega), if_neg (by omega), if_neg (by omega), if_neg (by omega), if_neg (by omega), zZ_f D (by omega)]; omega
  · rw [zZ_f (D + 0) (by omega), zZ_f (D + 354) (by omega), zZ_t (D - 384) (by omega), if_neg (by omega), if_neg (by omega), if_neg (by omega), if_neg (by omega), if_neg (by omega), zZ_f D (by omega)]; omega
  · rw [zZ_t (D + 0) (by omega), zZ_t (D + 354) (by omega), zZ_f (D - 384) (by omega), if_neg (by omega), if_neg (by omega), if_neg (by omega), if_neg (by omega), if_neg (by omega), zZ_t D (by omega)]; omega
  · rw [zZ_f (D + 0) (by omega), zZ_f (D + 354) (by omega), zZ_t (D - 384) (by omega), if_neg (by omega), if_neg (by omega), if_neg (by omega), if_neg (by omega), if_neg (by omega), zZ_f D (by omega)]; omega
  · rw [zZ_t (D + 0) (by omega), zZ_f (D + 354) (by omega), zZ_f (D - 384) (by omega), if_neg (by omega), if_neg (by omega), if_neg (by omega), if_neg (by omega), if_neg (by omega), zZ_t D (by omega)]; omega
  · rw [zZ_f (D + 0) (by omega), zZ_t (D + 354) (by omega), zZ_t (D - 384) (by omega), if_neg (by omega), if_neg (by omega), if_neg (by omega), if_neg (by omega), if_neg (by omega), zZ_f D (by omega)]; omega
theorem core_12_13_1 (D P : Int) (h0 : 9924 ≤ P) (h1 : P < 16404) : wW (25920 * D + P) 12 13 = vV 12 13 D P := by
  have hr : D % 7 = 0 ∨ D % 7 = 1 ∨ D % 7 = 2 ∨ D % 7 = 3 ∨ D % 7 = 4 ∨ D % 7 = 5 ∨ D % 7 = 6 := by omega
  unfold wW vV
  rw [aA_lo (25920 * D + P) (D + 0) (25920 * D + P - 25920 * (D + 0)) (by omega) (by omega) (by omega), aA_hi (25920 * D + P + 765433 * 12) (D + 354) (25920 * D + P + 765433 * 12 - 25920 * (D + 354)) (by omega) (by omega) (by omega), aA_lo (25920 * D + P - 765433 * 13) (D - 384) (25920 * D + P - 765433 * 13 - 25920 * (D - 384)) (by omega) (by omega) (by omega)]
  rcases hr with hr | hr | hr | hr | hr | hr | hr
  · rw [zZ_t (D + 0) (by omega), zZ_t (D + 354 + 1) (by omega), zZ_f (D - 384) (by omega), if_neg (by omega), if_neg (by omega), if_neg (by omega), if_neg (by omega), if_neg (by omega), zZ_t D (by omega)]; omega
  · rw [zZ_f (D + 0) (by omega), zZ_f (D + 354 + 1) (by omega), zZ_f (D - 384) (by omega), if_neg (by omega), if_neg (by omega), if_neg (by omega), if_neg (by omega), if_neg (by omega), zZ_f D (by omega)]; omega
  · rw [zZ_f (D + 0) (by omega), zZ_t (D + 354 + 1) (by omega), zZ_t (D - 384) (by omega), if_pos (by omega), if_neg (by omega), if_pos (by omega), zZ_t (D + 1) (by omega)]; omega
  · rw [zZ_t (D + 0) (by omega), zZ_f (D + 354 + 1) (by omega), zZ_f (D - 384) (by omega), if_neg (by omega), if_neg (by omega), if_neg (by omega), if_neg (by omega), if_neg (by omega), zZ_t D (by omega)]; omega
  · rw [zZ_f (D + 0) (by omega), zZ_f (D + 354 + 1) (by omega), zZ_t (D - 384) (by omega), if_neg (by omega), if_neg (by omega), if_neg (by omega), if_neg (by omega), if_neg (by omega), zZ_f D (by omega)]; omega
  · rw [zZ_t (D + 0) (by omega), zZ_t (D + 354 + 1) (by omega), zZ_f (D - 384) (by omega), if_neg (by omega), if_neg (by omega), if_neg (by omega), if_neg (by omega), if_neg (by omega), zZ_t D (by omega)]; omega
  · rw [zZ_f (D + 0) (by omega), zZ_f (D + 354 + 1) (by omega), zZ_t (D - 384) (by omega), if_neg (by omega), if_neg (by omega), if_neg (by omega), if_neg (by omega), if_neg (by omega), zZ_f D (by omega)]; omega
theorem core_12_13_2 (D P : Int) (h0 : 16404 ≤ P) (h1 : P < 16789) : wW (25920 * D + P) 12 13 = vV 12 13 D P := by
  have hr : D % 7 = 0 ∨ D % 7 = 1 ∨ D % 7 = 2 ∨ D % 7 = 3 ∨ D % 7 = 4 ∨ D % 7 = 5 ∨ D % 7 = 6 := by omega
  unfold wW vV
  rw [aA_lo (25920 * D + P) (D + 0) (25920 * D + P - 25920 * (D + 0)) (by omega) (by omega) (by omega), aA_lo (25920 * D + P + 765433 * 12) (D + 355) (25920 * D + P + 765433 * 12 - 25920 * (D + 355)) (by omega) (by omega) (by omega), aA_lo (25920 * D + P - 765433 * 13) (D - 384) (25920 * D + P - 765433 * 13 - 25920 * (D - 384)) (by omega) (by omega) (by omega)]
  rcases hr with hr | hr | hr | hr | hr | hr | hr
  · rw [zZ_t (D + 0) (by omega), zZ_t (D + 355) (by omega), zZ_f (D - 384) (by omega), if_neg (by omega), if_neg (by omega), if_neg (by omega), if_neg (by omega), if_neg (by omega), zZ_t D (by omega)]; omega
  · rw [zZ_f (D + 0) (by omega), zZ_f (D + 355) (by omega), zZ_f (D - 384) (by omega), if_neg (by omega), if_neg (by omega), if_neg (by omega), if_neg (by omega), if_neg (by omega), zZ_f D (by omega)]; omega
  · rw [zZ_f (D + 0) (by omega), zZ_t (D + 355) (by omega), zZ_t (D - 384) (by omega), if_pos (by omega), if_neg (by omega), if_pos (by omega), zZ_t (D + 1) (by omega)]; omega
  · rw [zZ_t (D + 0) (by omega), zZ_f (D + 355) (by omega), zZ_f (D - 384) (by omega), if_neg (by omega), if_neg (by omega), if_neg (by omega), if_neg (by omega), if_neg (by omega), zZ_t D (by omega)]; omega
  · rw [zZ_f (D + 0) (by omega), zZ_f (D + 355) (by omega), zZ_t (D - 384) (by omega), if_neg (by omega), if_neg (by omega), if_neg (by omega), if_neg (by omega), if_neg (by omega), zZ_f D (by omega)]; omega
  · rw [zZ_t (D + 0) (by omega), zZ_t (D + 355) (by omega), zZ_f (D - 384) (by omega), if_neg (by omega), if_neg (by omega), if_neg (by omega), if_neg (by omega), if_neg (by omega), zZ_t D (by omega)]; omega
  · rw [zZ_f (D + 0) (by omega), zZ_f (D + 355) (by omega), zZ_t (D - 384) (by omega), if_neg (by omega), if_neg (by omega), if_neg (by omega), if_neg (by omega), if_neg (by omega), zZ_f D (by omega)]; omega
theorem core_12_13_3 (D P : Int) (h0 : 16789 ≤ P) (h1 : P < 19440) : wW (25920 * D + P) 12 13 = vV 12 13 D P := by
  have hr : D % 7 = 0 ∨ D % 7 = 1 ∨ D % 7 = 2 ∨ D % 7 = 3 ∨ D % 7 = 4 ∨ D % 7 = 5 ∨ D % 7 = 6 := by omega
  unfold wW vV
  rw [aA_lo (25920 * D + P) (D + 0) (25920 * D + P - 25920 * (D + 0)) (by omega) (by omega) (by omega), aA_lo (25920 * D + P + 765433 * 12) (D + 355) (25920 * D + P + 765433 * 12 - 25920 * (D + 355)) (by omega) (by omega) (by omega), aA_hi (25920 * D + P - 765433 * 13) (D - 384) (25920 * D + P - 765433 * 13 - 25920 * (D - 384)) (by omega) (by omega) (by omega)]
  rcases hr with hr | hr | hr | hr | hr | hr | hr
  · rw [zZ_t (D + 0) (by omega), zZ_t (D + 355) (by omega), zZ_f (D - 384 + 1) (by omega), if_neg (by omega), if_neg (by omega), if_neg (by omega), if_neg (by omega), if_neg (by omega), zZ_t D (by omega)]; omega
  · rw [zZ_f (D + 0) (by omega), zZ_f (D + 355) (by omega), zZ_t (D - 384 + 1) (by omega), if_neg (by omega), if_pos (by omega), if_neg (by omega), if_neg (by omega), if_pos (by omega), zZ_f (D + 1) (by omega)]; omega
  · rw [zZ_f (D + 0) (by omega), zZ_t (D + 355) (by omega), zZ_f (D - 384 + 1) (by omega), if_pos (by omega), if_neg (by omega), if_pos (by omega), zZ_t (D + 1) (by omega)]; omega
  · rw [zZ_t (D + 0) (by omega), zZ_f (D + 355) (by omega), zZ_t (D - 384 + 1) (by omega), if_neg (by omega), if_neg (by omega), if_neg (by omega), if_neg (by omega), if_neg (by omega), zZ_t D (by omega)]; omega
  · rw [zZ_f (D + 0) (by omega), zZ_f (D + 355) (by omega), zZ_f (D - 384 + 1) (by omega), if_neg (by omega), if_neg (by omega), if_neg (by omega), if_neg (by omega), if_neg (by omega), zZ_f D (by omega)]; omega
  · rw [zZ_t (D + 0) (by omega), zZ_t (D + 355) (by omega), zZ_t (D - 384 + 1) (by omega), if_neg (by omega), if_neg (by omega), if_neg (by omega), if_neg (by omega), if_neg (by omega), zZ_t D (by omega)]; omega
  · rw [zZ_f (D + 0) (by omega), zZ_f (D + 355) (by omega), zZ_f (D - 384 + 1) (by omega), if_neg (by omega), if_neg (by omega), if_neg (by omega), if_neg (by omega), if_neg (by omega), zZ_f D (by omega)]; omega
theorem core_12_13_4 (D P : Int) (h0 : 19440 ≤ P) (h1 : P < 23269) : wW (25920 * D + P) 12 13 = vV 12 13 D P := by
  have hr : D % 7 = 0 ∨ D % 7 = 1 ∨ D % 7 = 2 ∨ D % 7 = 3 ∨ D % 7 = 4 ∨ D % 7 = 5 ∨ D % 7 = 6 := by omega
  unfold wW vV
  rw [aA_hi (25920 * D + P) (D + 0) (25920 * D + P - 25920 * (D + 0)) (by omega) (by omega) (by omega), aA_lo (25920 * D + P + 765433 * 12) (D + 355) (25920 * D + P + 765433 * 12 - 25920 * (D + 355)) (by omega) (by omega) (by omega), aA_hi (25920 * D + P - 765433 * 13) (D - 384) (25920 * D + P - 765433 * 13 - 25920 * (D - 384)) (by omega) (by omega) (by omega)]
  rcases hr with hr | hr | hr | hr | hr | hr | hr
  · rw [zZ_f (D + 0 + 1) (by omega), zZ_t (D + 355) (by omega), zZ_f (D - 384 + 1) (by omega), if_neg (by omega), if_neg (by omega), if_pos (by omega), zZ_f (D + 1) (by omega)]; omega
  · rw [zZ_f (D + 0 + 1) (by omega), zZ_f (D + 355) (by omega), zZ_t (D - 384 + 1) (by omega), if_neg (by omega), if_neg (by omega), if_pos (by omega), zZ_f (D + 1) (by omega)]; omega
  · rw [zZ_t (D + 0 + 1) (by omega), zZ_t (D + 355) (by omega), zZ_f (D - 384 + 1) (by omega), if_neg (by omega), if_neg (by omega), if_pos (by omega), zZ_t (D + 1) (by omega)]; omega
  · rw [zZ_f (D + 0 + 1) (by omega), zZ_f (D + 355) (by omega), zZ_t (D - 384 + 1) (by omega), if_neg (by omega), if_neg (by omega), if_pos (by omega), zZ_f (D + 1) (by omega)]; omega
  · rw [zZ_t (D + 0 + 1) (by omega), zZ_f (D + 355) (by omega), zZ_f (D - 384 + 1) (by omega), if_neg (by omega), if_neg (by omega), if_pos (by omega), zZ_t (D + 1) (by omega)]; omega
  · rw [zZ_f (D + 0 + 1) (by omega), zZ_t (D + 355) (by omega), zZ_t (D - 384 + 1) (by omega), if_neg (by omega), if_neg (by omega), if_pos (by omega), zZ_f (D + 1) (by omega)]; omega
  · rw [zZ_t (D + 0 + 1) (by omega), zZ_f (D + 355) (by omega), zZ_f (D - 384 + 1) (by omega), if_neg (by omega), if_neg (by omega), if_pos (by omega), zZ_t (D + 1) (by omega)]; omega
theorem core_12_13_5 (D P : Int) (h0 : 23269 ≤ P) (h1 : P < 25920) : wW (25920 * D + P) 12 13 = vV 12 13 D P := by
  have hr : D % 7 = 0 ∨ D % 7 = 1 ∨ D % 7 = 2 ∨ D % 7 = 3 ∨ D % 7 = 4 ∨ D % 7 = 5 ∨ D % 7 = 6 := by omega
  unfold wW vV
  rw [aA_hi (25920 * D + P) (D + 0) (25920 * D + P - 25920 * (D + 0)) (by omega) (by omega) (by omega), aA_lo (25920 * D + P + 765433 * 12) (D + 355) (25920 * D + P + 765433 * 12 - 25920 * (D + 355)) (by omega) (by omega) (by omega), aA_lo (25920 * D + P - 765433 * 13) (D - 383) (25920 * D + P - 765433 * 13 - 25920 * (D - 383)) (by omega) (by omega) (by omega)]
  rcases hr with hr | hr | hr | hr | hr | hr | hr
  · rw [zZ_f (D + 0 + 1) (by omega), zZ_t (D + 355) (by omega), zZ_f (D - 383) (by omega), if_neg (by omega), if_neg (by omega), if_pos (by omega), zZ_f (D + 1) (by omega)]; omega
  · rw [zZ_f (D + 0 + 1) (by omega), zZ_f (D + 355) (by omega), zZ_t (D - 383) (by omega), if_neg (by omega), if_neg (by omega), if_pos (by omega), zZ_f (D + 1) (by omega)]; omega
  · rw [zZ_t (D + 0 + 1) (by omega), zZ_t (D + 355) (by omega), zZ_f (D - 383) (by omega), if_neg (by omega), if_neg (by omega), if_pos (by omega), zZ_t (D + 1) (by omega)]; omega
  · rw [zZ_f (D + 0 + 1) (by omega), zZ_f (D + 355) (by omega), zZ_t (D - 383) (by omega), if_neg (by omega), if_neg (by omega), if_pos (by omega), zZ_f (D + 1) (by omega)]; omega
  · rw [zZ_t (D + 0 + 1) (by omega), zZ_f (D + 355) (by omega), zZ_f (D - 383) (by omega), if_neg (by omega), if_neg (by omega), if_pos (by omega), zZ_t (D + 1) (by omega)]; omega
  · rw [zZ_f (D + 0 + 1) (by omega), zZ_t (D + 355) (by omega), zZ_t (D - 383) (by omega), if_neg (by omega), if_neg (by omega), if_pos (by omega), zZ_f (D + 1) (by omega)]; omega
  · rw [zZ_t (D + 0 + 1) (by omega), zZ_f (D + 355) (by omega), zZ_f (D - 383) (by omega), if_neg (by omega), if_neg (by omega), if_pos (by omega), zZ_t (D + 1) (by omega)]; omega
theorem core_12_13 (D P : Int) (h0 : 0 ≤ P) (h1 : P < 25920) : wW (25920 * D + P) 12 13 = vV 12 13 D P := by
  by_cases c0 : P < 9924
  · exact core_12_13_0 D P (by omega) c0
  by_cases c1 : P < 16404
  · exact core_12_13_1 D P (by omega) c1
  by_cases c2 : P < 16789
  · exact core_12_13_2 D P (by omega) c2
  by_cases c3 : P < 19440
  · exact core_12_13_3 D P (by omega) c3
  by_cases c4 : P < 23269
  · exact core_12_13_4 D P (by omega) c4
  exact core_12_13_5 D P (by omega) h1
theorem core_13_12_0 (D P : Int) (h0 : 0 ≤ P) (h1 : P < 2651) : wW (25920 * D + P) 13 12 = vV 13 12 D P := by
  have hr : D % 7 = 0 ∨ D % 7 = 1 ∨ D % 7 = 2 ∨ D % 7 = 3 ∨ D % 7 = 4 ∨ D % 7 = 5 ∨ D % 7 = 6 := by omega
  unfold wW vV
  rw [aA_lo (25920 * D + P) (D + 0) (25920 * D + P - 25920 * (D + 0)) (by omega) (by omega) (by omega), aA_hi (25920 * D + P + 765433 * 13) (D + 383) (25920 * D + P + 765433 * 13 - 25920 * (D + 383)) (by omega) (by omega) (by omega), aA_lo (25920 * D + P - 765433 * 12) (D - 355) (25920 * D + P - 765433 * 12 - 25920 * (D - 355)) (by omega) (by omega) (by omega)]
  rcases hr with hr | hr | hr | hr | hr | hr | hr
  · rw [zZ_t (D + 0) (by omega), zZ_f (D + 383 + 1) (by omega), zZ_f (D - 355) (by omega), if_neg (by omega), if_neg (by omega), if_neg (by omega), if_neg (by omega), if_neg (by omega), zZ_t D (by omega)]; omega
  · rw [zZ_f (D + 0) (by omega), zZ_t (D + 383 + 1) (by omega), zZ_t (D - 355) (by omega), if_neg (by omega), if_neg (by omega), if_neg (by omega), if_neg (by omega), if_neg (by omega), zZ_f D (by omega)]; omega
  · rw [zZ_f (D + 0) (by omega), zZ_f (D + 383 + 1) (by omega), zZ_f (D - 355) (by omega), if_neg (by omega), if_neg (by omega), if_neg (by omega), if_neg (by omega), if_neg (by omega), zZ_f D (by omega)]; omega
  · rw [zZ_t (D + 0) (by omega), zZ_f (D + 383 + 1) (by omega), zZ_t (D - 355) (by omega), if_neg (by omega), if_neg (by omega), if_neg (by omega), if_neg (by omega), if_neg (by omega), zZ_t D (by omega)]; omega
  · rw [zZ_f (D + 0) (by omega), zZ_t (D + 383 + 1) (by omega), zZ_f (D - 355) (by omega), if_neg (by omega), if_neg (by omega), if_neg (by omega), if_neg (by omega), if_neg (by omega), zZ_f D (by omega)]; omega
  · rw [zZ_t (D + 0) (by omega), zZ_f (D + 383 + 1) (by omega), zZ_t (D - 355) (by omega), if_neg (by omega), if_neg (by omega), if_neg (by omega), if_neg (by omega), if_neg (by omega), zZ_t D (by omega)]; omega
  · rw [zZ_f (D + 0) (by omega), zZ_t (D + 383 + 1) (by omega), zZ_f (D - 355) (by omega), if_neg (by omega), if_neg (by omega), if_neg (by omega), if_neg (by omega), if_neg (by omega), zZ_f D (by omega)]; omega
theorem core_13_12_1 (D P : Int) (h0 : 2651 ≤ P) (h1 : P < 3036) : wW (25920 * D + P) 13 12 = vV 13 12 D P := by
  have hr : D % 7 = 0 ∨ D % 7 = 1 ∨ D % 7 = 2 ∨ D % 7 = 3 ∨ D % 7 = 4 ∨ D % 7 = 5 ∨ D % 7 = 6 := by omega
  unfold wW vV
  rw [aA_lo (25920 * D + P) (D + 0) (25920 * D + P - 25920 * (D + 0)) (by omega) (by omega) (by omega), aA_lo (25920 * D + P + 765433 * 13) (D + 384) (25920 * D + P + 765433 * 13 - 25920 * (D + 384)) (by omega) (by omega) (by omega), aA_lo (25920 * D + P - 765433 * 12) (D - 355) (25920 * D + P - 765433 * 12 - 25920 * (D - 355)) (by omega) (by omega) (by omega)]
  rcases hr with hr | hr | hr | hr | hr | hr | hr
  · rw [zZ_t (D + 0) (by omega), zZ_f (D + 384) (by omega), zZ_f (D - 355) (by omega), if_neg (by omega), if_neg (by omega), if_neg (by omega), if_neg (by omega), if_neg (by omega), zZ_t D (by omega)]; omega
  · rw [zZ_f (D + 0) (by omega), zZ_t (D + 384) (by omega), zZ_t (D - 355) (by omega), if_neg (by omega), if_neg (by omega), if_neg (by omega), if_neg (by omega), if_neg (by omega), zZ_f D (by omega)]; omega
  · rw [zZ_f (D + 0) (by omega), zZ_f (D + 384) (by omega), zZ_f (D - 355) (by omega), if_neg (by omega), if_neg (by omega), if_neg (by omega), if_neg (by omega), if_neg (by omega), zZ_f D (by omega)]; omega
  · rw [zZ_t (D + 0) (by omega), zZ_f (D + 384) (by omega), zZ_t (D - 355) (by omega), if_neg (by omega), if_neg (by omega), if_neg (by omega), if_neg (by omega), if_neg (by omega), zZ_t D (by omega)]; omega
  · rw [zZ_f (D + 0) (by omega), zZ_t (D + 384) (by omega), zZ_f (D - 355) (by omega), if_neg (by omega), if_neg (by omega), if_neg (by omega), if_neg (by omega), if_neg (by omega), zZ_f D (by omega)]; omega
  · rw [zZ_t (D + 0) (by omega), zZ_f (D + 384) (by omega), zZ_t (D - 355) (by omega), if_neg (by omega), if_neg (by omega), if_neg (by omega), if_neg (by omega), if_neg (by omega), zZ_t D (by omega)]; omega
  · rw [zZ_f (D + 0) (by omega), zZ_t (D + 384) (by omega), zZ_f (D - 355) (by omega), if_neg (by omega), if_neg (by omega), if_neg (by omega), if_neg (by omega), if_neg (by omega), zZ_f D (by omega)]; omega
theorem core_13_12_2 (D P : Int) (h0 : 3036 ≤ P) (h1 : P < 9516) : wW (25920 * D + P) 13 12 = vV 13 12 D P := by
  have hr : D % 7 = 0 ∨ D % 7 = 1 ∨ D % 7 = 2 ∨ D % 7 = 3 ∨ D % 7 = 4 ∨ D % 7 = 5 ∨ D % 7 = 6 := by omega
  unfold wW vV
  rw [aA_lo (25920 * D + P) (D + 0) (25920 * D + P - 25920 * (D + 0)) (by omega) (by omega) (by omega), aA_lo (25920 * D + P + 765433 * 13) (D + 384) (25920 * D + P + 765433 * 13 - 25920 * (D + 384)) (by omega) (by omega) (by omega), aA_hi (25920 * D + P - 765433 * 12) (D - 355) (25920 * D + P - 765433 * 12 - 25920 * (D - 355)) (by omega) (by omega) (by omega)]
  rcases hr with hr | hr | hr | hr | hr | hr | hr
  · rw [zZ_t (D + 0) (by omega), zZ_f (D + 384) (by omega), zZ_t (D - 355 + 1) (by omega), if_neg (by omega), if_neg (by omega), if_neg (by omega), if_neg (by omega), if_neg (by omega), zZ_t D (by omega)]; omega
  · rw [zZ_f (D + 0) (by omega), zZ_t (D + 384) (by omega), zZ_f (D - 355 + 1) (by omega), if_neg (by omega), if_neg (by omega), if_neg (by omega), if_neg (by omega), if_neg (by omega), zZ_f D (by omega)]; omega
  · rw [zZ_f (D + 0) (by omega), zZ_f (D + 384) (by omega), zZ_t (D - 355 + 1) (by omega), if_neg (by omega), if_neg (by omega), if_neg (by omega), if_neg (by omega), if_neg (by omega), zZ_f D (by omega)]; omega
  · rw [zZ_t (D + 0) (by omega), zZ_f (D + 384) (by omega), zZ_f (D - 355 + 1) (by omega), if_neg (by omega), if_neg (by omega), if_neg (by omega), if_neg (by omega), if_neg (by omega), zZ_t D (by omega)]; omega
  · rw [zZ_f (D + 0) (by omega), zZ_t (D + 384) (by omega), zZ_t (D - 355 + 1) (by omega), if_neg (by omega), if_neg (by omega), if_neg (by omega), if_neg (by omega), if_neg (by omega), zZ_f D (by omega)]; omega
  · rw [zZ_t (D + 0) (by omega), zZ_f (D + 384) (by omega), zZ_f (D - 355 + 1) (by omega), if_neg (by omega), if_neg (by omega), if_neg (by omega), if_neg (by omega), if_neg (by omega), zZ_t D (by omega)]; omega
  · rw [zZ_f (D + 0) (by omega), zZ_t (D + 384) (by omega), zZ_f (D - 355 + 1) (by omega), if_neg (by omega), if_neg (by omega), if_neg (by omega), if_neg (by omega), if_neg (by omega), zZ_f D (by omega)]; omega
theorem core_13_12_3 (D P : Int) (h0 : 9516 ≤ P) (h1 : P < 19440) : wW (25920 * D + P) 13 12 = vV 13 12 D P := by
  have hr : D % 7 = 0 ∨ D % 7 = 1 ∨ D % 7 = 2 ∨ D % 7 = 3 ∨ D % 7 = 4 ∨ D % 7 = 5 ∨ D % 7 = 6 := by omega
  unfold wW vV
  rw [aA_lo (25920 * D + P) (D + 0) (25920 * D + P - 25920 * (D + 0)) (by omega) (by omega) (by omega), aA_lo (25920 * D + P + 765433 * 13) (D + 384) (25920 * D + P + 765433 * 13 - 25920 * (D + 384)) (by omega) (by omega) (by omega), aA_lo (25920 * D + P - 765433 * 12) (D - 354) (25920 * D + P - 765433 * 12 - 25920 * (D - 354)) (by omega) (by omega) (by omega)]
  rcases hr with hr | hr | hr | hr | hr | hr | hr
  · rw [zZ_t (D + 0) (by omega), zZ_f (D + 384) (by omega), zZ_t (D - 354) (by omega), if_neg (by omega), if_neg (by omega), if_neg (by omega), if_neg (by omega), if_neg (by omega), zZ_t D (by omega)]; omega
  · rw [zZ_f (D + 0) (by omega), zZ_t (D + 384) (by omega), zZ_f (D - 354) (by omega), if_neg (by omega), if_neg (by omega), if_neg (by omega), if_neg (by omega), if_neg (by omega), zZ_f D (by omega)]; omega
  · rw [zZ_f (D + 0) (by omega), zZ_f (D + 384) (by omega), zZ_t (D - 354) (by omega), if_neg (by omega), if_neg (by omega), if_neg (by omega), if_neg (by omega), if_neg (by omega), zZ_f D (by omega)]; omega
  · rw [zZ_t (D + 0) (by omega), zZ_f (D + 384) (by omega), zZ_f (D - 354) (by omega), if_neg (by omega), if_neg (by omega), if_neg (by omega), if_neg (by omega), if_neg (by omega), zZ_t D (by omega)]; omega
  · rw [zZ_f (D + 0) (by omega), zZ_t (D + 384) (by omega), zZ_t (D - 354) (by omega), if_neg (by omega), if_neg (by omega), if_neg (by omega), if_neg (by omega), if_neg (by omega), zZ_f D (by omega)]; omega
  · rw [zZ_t (D + 0) (by omega), zZ_f (D + 384) (by omega), zZ_f (D - 354) (by omega), if_neg (by omega), if_neg (by omega), if_neg (by omega), if_neg (by omega), if_neg (by omega), zZ_t D (by omega)]; omega
  · rw [zZ_f (D + 0) (by omega), zZ_t (D + 384) (by omega), zZ_f (D - 354) (by omega), if_neg (by omega), if_neg (by omega), if_neg (by omega), if_neg (by omega), if_neg (by omega), zZ_f D (by omega)]; omega
theorem core_13_12_4 (D P : Int) (h0 : 19440 ≤ P) (h1 : P < 22091) : wW (25920 * D + P) 13 12 = vV 13 12 D P := by
  have hr : D % 7 = 0 ∨ D % 7 = 1 ∨ D % 7 = 2 ∨ D % 7 = 3 ∨ D % 7 = 4 ∨ D % 7 = 5 ∨ D % 7 = 6 := by omega
  unfold wW vV
  rw [aA_hi (25920 * D + P) (D + 0) (25920 * D + P - 25920 * (D + 0)) (by omega) (by omega) (by omega), aA_lo (25920 * D + P + 765433 * 13) (D + 384) (25920 * D + P + 765433 * 13 - 25920 * (D + 384)) (by omega) (by omega) (by omega), aA_lo (25920 * D + P - 765433 * 12) (D - 354) (25920 * D + P - 765433 * 12 - 25920 * (D - 354)) (by omega) (by omega) (by omega)]
  rcases hr with hr | hr | hr | hr | hr | hr | hr
  · rw [zZ_f (D + 0 + 1) (by omega), zZ_f (D + 384) (by omega), zZ_t (D - 354) (by omega), if_neg (by omega), if_neg (by omega), if_pos (by omega), zZ_f (D + 1) (by omega)]; omega
  · rw [zZ_f (D + 0 + 1) (by omega), zZ_t (D + 384) (by omega), zZ_f (D - 354) (by omega), if_neg (by omega), if_neg (by omega), if_pos (by omega), zZ_f (D + 1) (by omega)]; omega
  · rw [zZ_t (D + 0 + 1) (by omega), zZ_f (D + 384) (by omega), zZ_t (D - 354) (by omega), if_neg (by omega), if_neg (by omega), if_pos (by omega), zZ_t (D + 1) (by omega)]; omega
  · rw [zZ_f (D + 0 + 1) (by omega), zZ_f (D + 384) (by omega), zZ_f (D - 354) (by omega), if_neg (by omega), if_neg (by omega), if_pos (by omega), zZ_f (D + 1) (by omega)]; omega
  · rw [zZ_t (D + 0 + 1) (by omega), zZ_t (D + 384) (by omega), zZ_t (D - 354) (by omega), if_neg (by omega), if_neg (by omega), if_pos (by omega), zZ_t (D + 1) (by omega)]; omega
  · rw [zZ_f (D + 0 + 1) (by omega), zZ_f (D + 384) (by omega), zZ_f (D - 354) (by omega), if_neg (by omega), if_neg (by omega), if_pos (by omega), zZ_f (D + 1) (by omega)]; omega
  · rw [zZ_t (D + 0 + 1) (by omega), zZ_t (D + 384) (by omega), zZ_f (D - 354) (by omega), if_neg (by omega), if_neg (by omega), if_pos (by omega), zZ_t (D + 1) (by omega)]; omega
theorem core_13_12_5 (D P : Int) (h0 : 22091 ≤ P) (h1 : P < 25920) : wW (25920 * D + P) 13 12 = vV 13 12 D P := by
  have hr : D % 7 = 0 ∨ D % 7 = 1 ∨ D % 7 = 2 ∨ D % 7 = 3 ∨ D % 7 = 4 ∨ D % 7 = 5 ∨ D % 7 = 6 := by omega
  unfold wW vV
  rw [aA_hi (25920 * D + P) (D + 0) (25920 * D + P - 25920 * (D + 0)) (by omega) (by omega) (by omega), aA_hi (25920 * D + P + 765433 * 13) (D + 384) (25920 * D + P + 765433 * 13 - 25920 * (D + 384)) (by omega) (by omega) (by omega), aA_lo (25920 * D + P - 765433 * 12) (D - 354) (25920 * D + P - 765433 * 12 - 25920 * (D - 354)) (by omega) (by omega) (by omega)]
  rcases hr with hr | hr | hr | hr | hr | hr | hr
  · rw [zZ_f (D + 0 + 1) (by omega), zZ_t (D + 384 + 1) (by omega), zZ_t (D - 354) (by omega), if_neg (by omega), if_neg (by omega), if_pos (by omega), zZ_f (D + 1) (by omega)]; omega
  · rw [zZ_f (D + 0 + 1) (by omega), zZ_f (D + 384 + 1) (by omega), zZ_f (D - 354) (by omega), if_neg (by omega), if_neg (by omega), if_pos (by omega), zZ_f (D + 1) (by omega)]; omega
  · rw [zZ_t (D + 0 + 1) (by omega), zZ_f (D + 384 + 1) (by omega), zZ_t (D - 354) (by omega), if_neg (by omega), if_neg (by omega), if_pos (by omega), zZ_t (D + 1) (by omega)]; omega
  · rw [zZ_f (D + 0 + 1) (by omega), zZ_t (D + 384 + 1) (by omega), zZ_f (D - 354) (by omega), if_neg (by omega), if_neg (by omega), if_pos (by omega), zZ_f (D + 1) (by omega)]; omega
  · rw [zZ_t (D + 0 + 1) (by omega), zZ_f (D + 384 + 1) (by omega), zZ_t (D - 354) (by omega), if_neg (by omega), if_neg (by omega), if_pos (by omega), zZ_t (D + 1) (by omega)]; omega
  · rw [zZ_f (D + 0 + 1) (by omega), zZ_t (D + 384 + 1) (by omega), zZ_f (D - 354) (by omega), if_neg (by omega), if_neg (by omega), if_pos (by omega), zZ_f (D + 1) (by omega)]; omega
  · rw [zZ_t (D + 0 + 1) (by omega), zZ_f (D + 384 + 1) (by omega), zZ_f (D - 354) (by omega), if_neg (by omega), if_neg (by omega), if_pos (by omega), zZ_t (D + 1) (by omega)]; omega
theorem core_13_12 (D P : Int) (h0 : 0 ≤ P) (h1 : P < 25920) : wW (25920 * D + P) 13 12 = vV 13 12 D P := by
  by_cases c0 : P < 2651
  · exact core_13_12_0 D P (by omega) c0
  by_cases c1 : P < 3036
  · exact core_13_12_1 D P (by omega) c1
  by_cases c2 : P < 9516
  · exact core_13_12_2 D P (by omega) c2
  by_cases c3 : P < 19440
  · exact core_13_12_3 D P (by omega) c3
  by_cases c4 : P < 22091
  · exact core_13_12_4 D P (by omega) c4
  exact core_13_12_5 D P (by omega) h1
end Mine
namespace Mine
open PySem PySem.W PyProof.Rows
theorem len_12_12_13_0 (D P : Int) (h0 : 0 ≤ P) (h1 : P < 9924) : vV 13 12 (D + 354) (P + (9516)) - vV 12 12 D P = 353 ∨ vV 13 12 (D + 354) (P + (9516)) - vV 12 12 D P = 354 ∨ vV 13 12 (D + 354) (P + (9516)) - vV 12 12 D P = 355 := by
  have hr : D % 7 = 0 ∨ D % 7 = 1 ∨ D % 7 = 2 ∨ D % 7 = 3 ∨ D % 7 = 4 ∨ D % 7 = 5 ∨ D % 7 = 6 := by omega
  rcases hr with hr | hr | hr | hr | hr | hr | hr
  · have e1 : vV 13 12 (D + 354) (P + (9516)) = D + 354 := by
      unfold vV; rw [if_neg (by omega), if_neg (by omega), if_neg (by omega), zZ_f (D + 354) (by omega)]; try omega
    have e2 : vV 12 12 D P = D + 1 := by
      unfold vV; rw [if_neg (by omega), if_neg (by omega), if_neg (by omega), zZ_t D (by omega)]; try omega
    rw [e1, e2]; try omega
  · have e1 : vV 13 12 (D + 354) (P + (9516)) = D + 355 := by
      unfold vV; rw [if_neg (by omega), if_neg (by omega), if_neg (by omega), zZ_t (D + 354) (by omega)]; try omega
    have e2 : vV 12 12 D P = D + 0 := by
      unfold vV; rw [if_neg (by omega), if_neg (by omega), if_neg (by omega), zZ_f D (by omega)]; try omega
    rw [e1, e2]; try omega
  · have e1 : vV 13 12 (D + 354) (P + (9516)) = D + 354 := by
      unfold vV; rw [if_neg (by omega), if_neg (by omega), if_neg (by omega), zZ_f (D + 354) (by omega)]; try omega
    have e2 : vV 12 12 D P = D + 0 := by
      unfold vV; rw [if_neg (by omega), if_neg (by omega), if_neg (by omega), zZ_f D (by omega)]; try omega
    rw [e1, e2]; try omega
  · have e1 : vV 13 12 (D + 354) (P + (9516)) = D + 355 := by
      unfold vV; rw [if_neg (by omega), if_neg (by omega), if_neg (by omega), zZ_t (D + 354) (by omega)]; try omega
    have e2 : vV 12 12 D P = D + 1 := by
      unfold vV; rw [if_neg (by omega), if_neg (by omega), if_neg (by omega), zZ_t D (by omega)]; try omega
    rw [e1, e2]; try omega
  · have e1 : vV 13 12 (D + 354) (P + (9516)) = D + 354 := by
      unfold vV; rw [if_neg (by omega), if_neg (by omega), if_neg (by omega), zZ_f (D + 354) (by omega)]; try omega
    have e2 : vV 12 12 D P = D + 0 := by
      unfold vV; rw [if_neg (by omega), if_neg (by omega), if_neg (by omega), zZ_f D (by omega)]; try omega
    rw [e1, e2]; try omega
  · have e1 : vV 13 12 (D + 354) (P + (9516)) = D + 354 := by
      unfold vV; rw [if_neg (by omega), if_neg (by omega), if_neg (by omega), zZ_f (D + 354) (by omega)]; try omega
    have e2 : vV 12 12 D P = D + 1 := by
      unfold vV; rw [if_neg (by omega), if_neg (by omega), if_neg (by omega), zZ_t D (by omega)]; try omega
    rw [e1, e2]; try omega
  · have e1 : vV 13 12 (D + 354) (P + (9516)) = D + 355 := by
      unfold vV; rw [if_neg (by omega), if_neg (by omega), if_neg (by omega), zZ_t (D + 354) (by omega)]; try omega
    have e2 : vV 12 12 D P = D + 0 := by
      unfold vV; rw [if_neg (by omega), if_neg (by omega), if_neg (by omega), zZ_f D (by omega)]; try omega
    rw [e1, e2]; try omega
theorem len_12_12_13_1 (D P : Int) (h0 : 9924 ≤ P) (h1 : P < 16404) : vV 13 12 (D + 354) (P + (9516)) - vV 12 12 D P = 353 ∨ vV 13 12 (D + 354) (P + (9516)) - vV 12 12 D P = 354 ∨ vV 13 12 (D + 354) (P + (9516)) - vV 12 12 D P = 355 := by
  have hr : D % 7 = 0 ∨ D % 7 = 1 ∨ D % 7 = 2 ∨ D % 7 = 3 ∨ D % 7 = 4 ∨ D % 7 = 5 ∨ D % 7 = 6 := by omega
  rcases hr with hr | hr | hr | hr | hr | hr | hr
  · have e1 : vV 13 12 (D + 354) (P + (9516)) = D + 356 := by
      unfold vV; rw [if_pos (by omega), zZ_t ((D + 354) + 1) (by omega)]; try omega
    have e2 : vV 12 12 D P = D + 1 := by
      unfold vV; rw [if_neg (by omega), if_neg (by omega), if_neg (by omega), zZ_t D (by omega)]; try omega
    rw [e1, e2]; try omega
  · have e1 : vV 13 12 (D + 354) (P + (9516)) = D + 355 := by
      unfold vV; rw [if_pos (by omega), zZ_f ((D + 354) + 1) (by omega)]; try omega
    have e2 : vV 12 12 D P = D + 0 := by
      unfold vV; rw [if_neg (by omega), if_neg (by omega), if_neg (by omega), zZ_f D (by omega)]; try omega
    rw [e1, e2]; try omega
  · have e1 : vV 13 12 (D + 354) (P + (9516)) = D + 356 := by
      unfold vV; rw [if_pos (by omega), zZ_t ((D + 354) + 1) (by omega)]; try omega
    have e2 : vV 12 12 D P = D + 2 := by
      unfold vV; rw [if_neg (by omega), if_pos (by omega), zZ_t (D + 1) (by omega)]; try omega
    rw [e1, e2]; try omega
  · have e1 : vV 13 12 (D + 354) (P + (9516)) = D + 355 := by
      unfold vV; rw [if_pos (by omega), zZ_f ((D + 354) + 1) (by omega)]; try omega
    have e2 : vV 12 12 D P = D + 1 := by
      unfold vV; rw [if_neg (by omega), if_neg (by omega), if_neg (by omega), zZ_t D (by omega)]; try omega
    rw [e1, e2]; try omega
  · have e1 : vV 13 12 (D + 354) (P + (9516)) = D + 355 := by
      unfold vV; rw [if_pos (by omega), zZ_f ((D + 354) + 1) (by omega)]; try omega
    have e2 : vV 12 12 D P = D + 0 := by
      unfold vV; rw [if_neg (by omega), if_neg (by omega), if_neg (by omega), zZ_f D (by omega)]; try omega
    rw [e1, e2]; try omega
  · have e1 : vV 13 12 (D + 354) (P + (9516)) = D + 356 := by
      unfold vV; rw [if_pos (by omega), zZ_t ((D + 354) + 1) (by omega)]; try omega
    have e2 : vV 12 12 D P = D + 1 := by
      unfold vV; rw [if_neg (by omega), if_neg (by omega), if_neg (by omega), zZ_t D (by omega)]; try omega
    rw [e1, e2]; try omega
  · have e1 : vV 13 12 (D + 354) (P + (9516)) = D + 355 := by
      unfold vV; rw [if_pos (by omega), zZ_f ((D + 354) + 1) (by omega)]; try omega
    have e2 : vV 12 12 D P = D + 0 := by
      unfold vV; rw [if_neg (by omega), if_neg (by omega), if_neg (by omega), zZ_f D (by omega)]; try omega
    rw [e1, e2]; try omega
theorem len_12_12_13_2 (D P : Int) (h0 : 16404 ≤ P) (h1 : P < 19440) : vV 13 12 (D + 355) (P + (-16404)) - vV 12 12 D P = 353 ∨ vV 13 12 (D + 355) (P + (-16404)) - vV 12 12 D P = 354 ∨ vV 13 12 (D + 355) (P + (-16404)) - vV 12 12 D P = 355 := by
  have hr : D % 7 = 0 ∨ D % 7 = 1 ∨ D % 7 = 2 ∨ D % 7 = 3 ∨ D % 7 = 4 ∨ D % 7 = 5 ∨ D % 7 = 6 := by omega
  rcases hr with hr | hr | hr | hr | hr | hr | hr
  · have e1 : vV 13 12 (D + 355) (P + (-16404)) = D + 356 := by
      unfold vV; rw [if_neg (by omega), if_neg (by omega), if_neg (by omega), zZ_t (D + 355) (by omega)]; try omega
    have e2 : vV 12 12 D P = D + 1 := by
      unfold vV; rw [if_neg (by omega), if_neg (by omega), if_neg (by omega), zZ_t D (by omega)]; try omega
    rw [e1, e2]; try omega
  · have e1 : vV 13 12 (D + 355) (P + (-16404)) = D + 355 := by
      unfold vV; rw [if_neg (by omega), if_neg (by omega), if_neg (by omega), zZ_f (D + 355) (by omega)]; try omega
    have e2 : vV 12 12 D P = D + 0 := by
      unfold vV; rw [if_neg (by omega), if_neg (by omega), if_neg (by omega), zZ_f D (by omega)]; try omega
    rw [e1, e2]; try omega
  · have e1 : vV 13 12 (D + 355) (P + (-16404)) = D + 356 := by
      unfold vV; rw [if_neg (by omega), if_neg (by omega), if_neg (by omega), zZ_t (D + 355) (by omega)]; try omega
    have e2 : vV 12 12 D P = D + 2 := by
      unfold vV; rw [if_neg (by omega), if_pos (by omega), zZ_t (D + 1) (by omega)]; try omega
    rw [e1, e2]; try omega
  · have e1 : vV 13 12 (D + 355) (P + (-16404)) = D + 355 := by
      unfold vV; rw [if_neg (by omega), if_neg (by omega), if_neg (by omega), zZ_f (D + 355) (by omega)]; try omega
    have e2 : vV 12 12 D P = D + 1 := by
      unfold vV; rw [if_neg (by omega), if_neg (by omega), if_neg (by omega), zZ_t D (by omega)]; try omega
    rw [e1, e2]; try omega
  · have e1 : vV 13 12 (D + 355) (P + (-16404)) = D + 355 := by
      unfold vV; rw [if_neg (by omega), if_neg (by omega), if_neg (by omega), zZ_f (D + 355) (by omega)]; try omega
    have e2 : vV 12 12 D P = D + 0 := by
      unfold vV; rw [if_neg (by omega), if_neg (by omega), if_neg (by omega), zZ_f D (by omega)]; try omega
    rw [e1, e2]; try omega
  · have e1 : vV 13 12 (D + 355) (P + (-16404)) = D + 356 := by
      unfold vV; rw [if_neg (by omega), if_neg (by omega), if_neg (by omega), zZ_t (D + 355) (by omega)]; try omega
    have e2 : vV 12 12 D P = D + 1 := by
      unfold vV; rw [if_neg (by omega), if_neg (by omega), if_neg (by omega), zZ_t D (by omega)]; try omega
    rw [e1, e2]; try omega
  · have e1 : vV 13 12 (D + 355) (P + (-16404)) = D + 355 := by
      unfold vV; rw [if_neg (by omega), if_neg (by omega), if_neg (by omega), zZ_f (D + 355) (by omega)]; try omega
    have e2 : vV 12 12 D P = D + 0 := by
      unfold vV; rw [if_neg (by omega), if_neg (by omega), if_neg (by omega), zZ_f D (by omega)]; try omega
    rw [e1, e2]; try omega
theorem len_12_12_13_3 (D P : Int) (h0 : 19440 ≤ P) (h1 : P < 25920) : vV 13 12 (D + 355) (P + (-16404)) - vV 12 12 D P = 353 ∨ vV 13 12 (D + 355) (P + (-16404)) - vV 12 12 D P = 354 ∨ vV 13 12 (D + 355) (P + (-16404)) - vV 12 12 D P = 355 := by
  have hr : D % 7 = 0 ∨ D % 7 = 1 ∨ D % 7 = 2 ∨ D % 7 = 3 ∨ D % 7 = 4 ∨ D % 7 = 5 ∨ D % 7 = 6 := by omega
  rcases hr with hr | hr | hr | hr | hr | hr | hr
  · have e1 : vV 13 12 (D + 355) (P + (-16404)) = D + 356 := by
      unfold vV; rw [if_neg (by omega), if_neg (by omega), if_neg (by omega), zZ_t (D + 355) (by omega)]; try omega
    have e2 : vV 12 12 D P = D + 1 := by
      unfold vV; rw [if_pos (by omega), zZ_f (D + 1) (by omega)]; try omega
    rw [e1, e2]; try omega
  · have e1 : vV 13 12 (D + 355) (P + (-16404)) = D + 355 := by
      unfold vV; rw [if_neg (by omega), if_neg (by omega), if_neg (by omega), zZ_f (D + 355) (by omega)]; try omega
    have e2 : vV 12 12 D P = D + 1 := by
      unfold vV; rw [if_pos (by omega), zZ_f (D + 1) (by omega)]; try omega
    rw [e1, e2]; try omega
  · have e1 : vV 13 12 (D + 355) (P + (-16404)) = D + 356 := by
      unfold vV; rw [if_neg (by omega), if_neg (by omega), if_neg (by omega), zZ_t (D + 355) (by omega)]; try omega
    have e2 : vV 12 12 D P = D + 2 := by
      unfold vV; rw [if_pos (by omega), zZ_t (D + 1) (by omega)]; try omega
    rw [e1, e2]; try omega
  · have e1 : vV 13 12 (D + 355) (P + (-16404)) = D + 355 := by
      unfold vV; rw [if_neg (by omega), if_neg (by omega), if_neg (by omega), zZ_f (D + 355) (by omega)]; try omega
    have e2 : vV 12 12 D P = D + 1 := by
      unfold vV; rw [if_pos (by omega), zZ_f (D + 1) (by omega)]; try omega
    rw [e1, e2]; try omega
  · have e1 : vV 13 12 (D + 355) (P + (-16404)) = D + 355 := by
      unfold vV; rw [if_neg (by omega), if_neg (by omega), if_neg (by omega), zZ_f (D + 355) (by omega)]; try omega
    have e2 : vV 12 12 D P = D + 2 := by
      unfold vV; rw [if_pos (by omega), zZ_t (D + 1) (by omega)]; try omega
    rw [e1, e2]; try omega
  · have e1 : vV 13 12 (D + 355) (P + (-16404)) = D + 356 := by
      unfold vV; rw [if_neg (by omega), if_neg (by omega), if_neg (by omega), zZ_t (D + 355) (by omega)]; try omega
    have e2 : vV 12 12 D P = D + 1 := by
      unfold vV; rw [if_pos (by omega), zZ_f (D + 1) (by omega)]; try omega
    rw [e1, e2]; try omega
  · have e1 : vV 13 12 (D + 355) (P + (-16404)) = D + 355 := by
      unfold vV; rw [if_neg (by omega), if_neg (by omega), if_neg (by omega), zZ_f (D + 355) (by omega)]; try omega
    have e2 : vV 12 12 D P = D + 2 := by
      unfold vV; rw [if_pos (by omega), zZ_t (D + 1) (by omega)]; try omega
    rw [e1, e2]; try omega
theorem len_12_12_13 (D P : Int) (h0 : 0 ≤ P) (h1 : P < 25920) (D2 P2 : Int) (g0 : 0 ≤ P2) (g1 : P2 < 25920) (hs : 25920 * D2 + P2 = 25920 * D + P + 765433 * 12) : vV 13 12 D2 P2 - vV 12 12 D P = 353 ∨ vV 13 12 D2 P2 - vV 12 12 D P = 354 ∨ vV 13 12 D2 P2 - vV 12 12 D P = 355 := by
  by_cases c0 : P < 9924
  · have q := len_12_12_13_0 D P (by omega) (by omega); rw [show D2 = D + 354 by omega, show P2 = P + (9516) by omega]; exact q
  by_cases c1 : P < 16404
  · have q := len_12_12_13_1 D P (by omega) (by omega); rw [show D2 = D + 354 by omega, show P2 = P + (9516) by omega]; exact q
  by_cases c2 : P < 19440
  · have q := len_12_12_13_2 D P (by omega) (by omega); rw [show D2 = D + 355 by omega, show P2 = P + (-16404) by omega]; exact q
  have q := len_12_12_13_3 D P (by omega) (by omega); rw [show D2 = D + 355 by omega, show P2 = P + (-16404) by omega]; exact q
theorem len_12_13_12_0 (D P : Int) (h0 : 0 ≤ P) (h1 : P < 2651) : vV 12 13 (D + 383) (P + (23269)) - vV 13 12 D P = 383 ∨ vV 12 13 (D + 383) (P + (23269)) - vV 13 12 D P = 384 ∨ vV 12 13 (D + 383) (P + (23269)) - vV 13 12 D P = 385 := by
  have hr : D % 7 = 0 ∨ D % 7 = 1 ∨ D % 7 = 2 ∨ D % 7 = 3 ∨ D % 7 = 4 ∨ D % 7 = 5 ∨ D % 7 = 6 := by omega
  rcases hr with hr | hr | hr | hr | hr | hr | hr
  · have e1 : vV 12 13 (D + 383) (P + (23269)) = D + 384 := by
      unfold vV; rw [if_pos (by omega), zZ_f ((D + 383) + 1) (by omega)]; try omega
    have e2 : vV 13 12 D P = D + 1 := by
      unfold vV; rw [if_neg (by omega), if_neg (by omega), if_neg (by omega), zZ_t D (by omega)]; try omega
    rw [e1, e2]; try omega
  · have e1 : vV 12 13 (D + 383) (P + (23269)) = D + 385 := by
      unfold vV; rw [if_pos (by omega), zZ_t ((D + 383) + 1) (by omega)]; try omega
    have e2 : vV 13 12 D P = D + 0 := by
      unfold vV; rw [if_neg (by omega), if_neg (by omega), if_neg (by omega), zZ_f D (by omega)]; try omega
    rw [e1, e2]; try omega
  · have e1 : vV 12 13 (D + 383) (P + (23269)) = D + 384 := by
      unfold vV; rw [if_pos (by omega), zZ_f ((D + 383) + 1) (by omega)]; try omega
    have e2 : vV 13 12 D P = D + 0 := by
      unfold vV; rw [if_neg (by omega), if_neg (by omega), if_neg (by omega), zZ_f D (by omega)]; try omega
    rw [e1, e2]; try omega
  · have e1 : vV 12 13 (D + 383) (P + (23269)) = D + 384 := by
      unfold vV; rw [if_pos (by omega), zZ_f ((D + 383) + 1) (by omega)]; try omega
    have e2 : vV 13 12 D P = D + 1 := by
      unfold vV; rw [if_neg (by omega), if_neg (by omega), if_neg (by omega), zZ_t D (by omega)]; try omega
    rw [e1, e2]; try omega
  · have e1 : vV 12 13 (D + 383) (P + (23269)) = D + 385 := by
      unfold vV; rw [if_pos (by omega), zZ_t ((D + 383) + 1) (by omega)]; try omega
    have e2 : vV 13 12 D P = D + 0 := by
      unfold vV; rw [if_neg (by omega), if_neg (by omega), if_neg (by omega), zZ_f D (by omega)]; try omega
    rw [e1, e2]; try omega
  · have e1 : vV 12 13 (D + 383) (P + (23269)) = D + 384 := by
      unfold vV; rw [if_pos (by omega), zZ_f ((D + 383) + 1) (by omega)]; try omega
    have e2 : vV 13 12 D P = D + 1 := by
      unfold vV; rw [if_neg (by omega), if_neg (by omega), if_neg (by omega), zZ_t D (by omega)]; try omega
    rw [e1, e2]; try omega
  · have e1 : vV 12 13 (D + 383) (P + (23269)) = D + 385 := by
      unfold vV; rw [if_pos (by omega), zZ_t ((D + 383) + 1) (by omega)]; try omega
    have e2 : vV 13 12 D P = D + 0 := by
      unfold vV; rw [if_neg (by omega), if_neg (by omega), if_neg (by omega), zZ_f D (by omega)]; try omega
    rw [e1, e2]; try omega
theorem len_12_13_12_1 (D P : Int) (h0 : 2651 ≤ P) (h1 : P < 12575) : vV 12 13 (D + 384) (P + (-2651)) - vV 13 12 D P = 383 ∨ vV 12 13 (D + 384) (P + (-2651)) - vV 13 12 D P = 384 ∨ vV 12 13 (D + 384) (P + (-2651)) - vV 13 12 D P = 385 := by
  have hr : D % 7 = 0 ∨ D % 7 = 1 ∨ D % 7 = 2 ∨ D % 7 = 3 ∨ D % 7 = 4 ∨ D % 7 = 5 ∨ D % 7 = 6 := by omega
  rcases hr with hr | hr | hr | hr | hr | hr | hr
  · have e1 : vV 12 13 (D + 384) (P + (-2651)) = D + 384 := by
      unfold vV; rw [if_neg (by omega), if_neg (by omega), if_neg (by omega), zZ_f (D + 384) (by omega)]; try omega
    have e2 : vV 13 12 D P = D + 1 := by
      unfold vV; rw [if_neg (by omega), if_neg (by omega), if_neg (by omega), zZ_t D (by omega)]; try omega
    rw [e1, e2]; try omega
  · have e1 : vV 12 13 (D + 384) (P + (-2651)) = D + 385 := by
      unfold vV; rw [if_neg (by omega), if_neg (by omega), if_neg (by omega), zZ_t (D + 384) (by omega)]; try omega
    have e2 : vV 13 12 D P = D + 0 := by
      unfold vV; rw [if_neg (by omega), if_neg (by omega), if_neg (by omega), zZ_f D (by omega)]; try omega
    rw [e1, e2]; try omega
  · have e1 : vV 12 13 (D + 384) (P + (-2651)) = D + 384 := by
      unfold vV; rw [if_neg (by omega), if_neg (by omega), if_neg (by omega), zZ_f (D + 384) (by omega)]; try omega
    have e2 : vV 13 12 D P = D + 0 := by
      unfold vV; rw [if_neg (by omega), if_neg (by omega), if_neg (by omega), zZ_f D (by omega)]; try omega
    rw [e1, e2]; try omega
  · have e1 : vV 12 13 (D + 384) (P + (-2651)) = D + 384 := by
      unfold vV; rw [if_neg (by omega), if_neg (by omega), if_neg (by omega), zZ_f (D + 384) (by omega)]; try omega
    have e2 : vV 13 12 D P = D + 1 := by
      unfold vV; rw [if_neg (by omega), if_neg (by omega), if_neg (by omega), zZ_t D (by omega)]; try omega
    rw [e1, e2]; try omega
  · have e1 : vV 12 13 (D + 384) (P + (-2651)) = D + 385 := by
      unfold vV; rw [if_neg (by omega), if_neg (by omega), if_neg (by omega), zZ_t (D + 384) (by omega)]; try omega
    have e2 : vV 13 12 D P = D + 0 := by
      unfold vV; rw [if_neg (by omega), if_neg (by omega), if_neg (by omega), zZ_f D (by omega)]; try omega
    rw [e1, e2]; try omega
  · have e1 : vV 12 13 (D + 384) (P + (-2651)) = D + 384 := by
      unfold vV; rw [if_neg (by omega), if_neg (by omega), if_neg (by omega), zZ_f (D + 384) (by omega)]; try omega
    have e2 : vV 13 12 D P = D + 1 := by
      unfold vV; rw [if_neg (by omega), if_neg (by omega), if_neg (by omega), zZ_t D (by omega)]; try omega
    rw [e1, e2]; try omega
  · have e1 : vV 12 13 (D + 384) (P + (-2651)) = D + 385 := by
      unfold vV; rw [if_neg (by omega), if_neg (by omega), if_neg (by omega), zZ_t (D + 384) (by omega)]; try omega
    have e2 : vV 13 12 D P = D + 0 := by
      unfold vV; rw [if_neg (by omega), if_neg (by omega), if_neg (by omega), zZ_f D (by omega)]; try omega
    rw [e1, e2]; try omega
theorem len_12_13_12_2 (D P : Int) (h0 : 12575 ≤ P) (h1 : P < 19440) : vV 12 13 (D + 384) (P + (-2651)) - vV 13 12 D P = 383 ∨ vV 12 13 (D + 384) (P + (-2651)) - vV 13 12 D P = 384 ∨ vV 12 13 (D + 384) (P + (-2651)) - vV 13 12 D P = 385 := by
  have hr : D % 7 = 0 ∨ D % 7 = 1 ∨ D % 7 = 2 ∨ D % 7 = 3 ∨ D % 7 = 4 ∨ D % 7 = 5 ∨ D % 7 = 6 := by omega
  rcases hr with hr | hr | hr | hr | hr | hr | hr
  · have e1 : vV 12 13 (D + 384) (P + (-2651)) = D + 384 := by
      unfold vV; rw [if_neg (by omega), if_neg (by omega), if_neg (by omega), zZ_f (D + 384) (by omega)]; try omega
    have e2 : vV 13 12 D P = D + 1 := by
      unfold vV; rw [if_neg (by omega), if_neg (by omega), if_neg (by omega), zZ_t D (by omega)]; try omega
    rw [e1, e2]; try omega
  · have e1 : vV 12 13 (D + 384) (P + (-2651)) = D + 385 := by
      unfold vV; rw [if_neg (by omega), if_neg (by omega), if_neg (by omega), zZ_t (D + 384) (by omega)]; try omega
    have e2 : vV 13 12 D P = D + 0 := by
      unfold vV; rw [if_neg (by omega), if_neg (by omega), if_neg (by omega), zZ_f D (by omega)]; try omega
    rw [e1, e2]; try omega
  · have e1 : vV 12 13 (D + 384) (P + (-2651)) = D + 384 := by
      unfold vV; rw [if_neg (by omega), if_neg (by omega), if_neg (by omega), zZ_f (D + 384) (by omega)]; try omega
    have e2 : vV 13 12 D P = D + 0 := by
      unfold vV; rw [if_neg (by omega), if_neg (by omega), if_neg (by omega), zZ_f D (by omega)]; try omega
    rw [e1, e2]; try omega
  · have e1 : vV 12 13 (D + 384) (P + (-2651)) = D + 386 := by
      unfold vV; rw [if_neg (by omega), if_pos (by omega), zZ_t ((D + 384) + 1) (by omega)]; try omega
    have e2 : vV 13 12 D P = D + 1 := by
      unfold vV; rw [if_neg (by omega), if_neg (by omega), if_neg (by omega), zZ_t D (by omega)]; try omega
    rw [e1, e2]; try omega
  · have e1 : vV 12 13 (D + 384) (P + (-2651)) = D + 385 := by
      unfold vV; rw [if_neg (by omega), if_neg (by omega), if_neg (by omega), zZ_t (D + 384) (by omega)]; try omega
    have e2 : vV 13 12 D P = D + 0 := by
      unfold vV; rw [if_neg (by omega), if_neg (by omega), if_neg (by omega), zZ_f D (by omega)]; try omega
    rw [e1, e2]; try omega
  · have e1 : vV 12 13 (D + 384) (P + (-2651)) = D + 384 := by
      unfold vV; rw [if_neg (by omega), if_neg (by omega), if_neg (by omega), zZ_f (D + 384) (by omega)]; try omega
    have e2 : vV 13 12 D P = D + 1 := by
      unfold vV; rw [if_neg (by omega), if_neg (by omega), if_neg (by omega), zZ_t D (by omega)]; try omega
    rw [e1, e2]; try omega
  · have e1 : vV 12 13 (D + 384) (P + (-2651)) = D + 385 := by
      unfold vV; rw [if_neg (by omega), if_neg (by omega), if_neg (by omega), zZ_t (D + 384) (by omega)]; try omega
    have e2 : vV 13 12 D P = D + 0 := by
      unfold vV; rw [if_neg (by omega), if_neg (by omega), if_neg (by omega), zZ_f D (by omega)]; try omega
    rw [e1, e2]; try omega
theorem len_12_13_12_3 (D P : Int) (h0 : 19440 ≤ P) (h1 : P < 22091) : vV 12 13 (D + 384) (P + (-2651)) - vV 13 12 D P = 383 ∨ vV 12 13 (D + 384) (P + (-2651)) - vV 13 12 D P = 384 ∨ vV 12 13 (D + 384) (P + (-2651)) - vV 13 12 D P = 385 := by
  have hr : D % 7 = 0 ∨ D % 7 = 1 ∨ D % 7 = 2 ∨ D % 7 = 3 ∨ D % 7 = 4 ∨ D % 7 = 5 ∨ D % 7 = 6 := by omega
  rcases hr with hr | hr | hr | hr | hr | hr | hr
  · have e1 : vV 12 13 (D + 384) (P + (-2651)) = D + 384 := by
      unfold vV; rw [if_neg (by omega), if_neg (by omega), if_neg (by omega), zZ_f (D + 384) (by omega)]; try omega
    have e2 : vV 13 12 D P = D + 1 := by
      unfold vV; rw [if_pos (by omega), zZ_f (D + 1) (by omega)]; try omega
    rw [e1, e2]; try omega
  · have e1 : vV 12 13 (D + 384) (P + (-2651)) = D + 385 := by
      unfold vV; rw [if_neg (by omega), if_neg (by omega), if_neg (by omega), zZ_t (D + 384) (by omega)]; try omega
    have e2 : vV 13 12 D P = D + 1 := by
      unfold vV; rw [if_pos (by omega), zZ_f (D + 1) (by omega)]; try omega
    rw [e1, e2]; try omega
  · have e1 : vV 12 13 (D + 384) (P + (-2651)) = D + 385 := by
      unfold vV; rw [if_neg (by omega), if_neg (by omega), if_pos (by omega), zZ_f ((D + 384) + 1) (by omega)]; try omega
    have e2 : vV 13 12 D P = D + 2 := by
      unfold vV; rw [if_pos (by omega), zZ_t (D + 1) (by omega)]; try omega
    rw [e1, e2]; try omega
  · have e1 : vV 12 13 (D + 384) (P + (-2651)) = D + 386 := by
      unfold vV; rw [if_neg (by omega), if_pos (by omega), zZ_t ((D + 384) + 1) (by omega)]; try omega
    have e2 : vV 13 12 D P = D + 1 := by
      unfold vV; rw [if_pos (by omega), zZ_f (D + 1) (by omega)]; try omega
    rw [e1, e2]; try omega
  · have e1 : vV 12 13 (D + 384) (P + (-2651)) = D + 385 := by
      unfold vV; rw [if_neg (by omega), if_neg (by omega), if_neg (by omega), zZ_t (D + 384) (by omega)]; try omega
    have e2 : vV 13 12 D P = D + 2 := by
      unfold vV; rw [if_pos (by omega), zZ_t (D + 1) (by omega)]; try omega
    rw [e1, e2]; try omega
  · have e1 : vV 12 13 (D + 384) (P + (-2651)) = D + 384 := by
      unfold vV; rw [if_neg (by omega), if_neg (by omega), if_neg (by omega), zZ_f (D + 384) (by omega)]; try omega
    have e2 : vV 13 12 D P = D + 1 := by
      unfold vV; rw [if_pos (by omega), zZ_f (D + 1) (by omega)]; try omega
    rw [e1, e2]; try omega
  · have e1 : vV 12 13 (D + 384) (P + (-2651)) = D + 385 := by
      unfold vV; rw [if_neg (by omega), if_neg (by omega), if_neg (by omega), zZ_t (D + 384) (by omega)]; try omega
    have e2 : vV 13 12 D P = D + 2 := by
      unfold vV; rw [if_pos (by omega), zZ_t (D + 1) (by omega)]; try omega
    rw [e1, e2]; try omega
theorem len_12_13_12_4 (D P : Int) (h0 : 22091 ≤ P) (h1 : P < 25920) : vV 12 13 (D + 384) (P + (-2651)) - vV 13 12 D P = 383 ∨ vV 12 13 (D + 384) (P + (-2651)) - vV 13 12 D P = 384 ∨ vV 12 13 (D + 384) (P + (-2651)) - vV 13 12 D P = 385 := by
  have hr : D % 7 = 0 ∨ D % 7 = 1 ∨ D % 7 = 2 ∨ D % 7 = 3 ∨ D % 7 = 4 ∨ D % 7 = 5 ∨ D % 7 = 6 := by omega
  rcases hr with hr | hr | hr | hr | hr | hr | hr
  · have e1 : vV 12 13 (D + 384) (P + (-2651)) = D + 386 := by
      unfold vV; rw [if_pos (by omega), zZ_t ((D + 384) + 1) (by omega)]; try omega
    have e2 : vV 13 12 D P = D + 1 := by
      unfold vV; rw [if_pos (by omega), zZ_f (D + 1) (by omega)]; try omega
    rw [e1, e2]; try omega
  · have e1 : vV 12 13 (D + 384) (P + (-2651)) = D + 385 := by
      unfold vV; rw [if_pos (by omega), zZ_f ((D + 384) + 1) (by omega)]; try omega
    have e2 : vV 13 12 D P = D + 1 := by
      unfold vV; rw [if_pos (by omega), zZ_f (D + 1) (by omega)]; try omega
    rw [e1, e2]; try omega
  · have e1 : vV 12 13 (D + 384) (P + (-2651)) = D + 385 := by
      unfold vV; rw [if_pos (by omega), zZ_f ((D + 384) + 1) (by omega)]; try omega
    have e2 : vV 13 12 D P = D + 2 := by
      unfold vV; rw [if_pos (by omega), zZ_t (D + 1) (by omega)]; try omega
    rw [e1, e2]; try omega
  · have e1 : vV 12 13 (D + 384) (P + (-2651)) = D + 386 := by
      unfold vV; rw [if_pos (by omega), zZ_t ((D + 384) + 1) (by omega)]; try omega
    have e2 : vV 13 12 D P = D + 1 := by
      unfold vV; rw [if_pos (by omega), zZ_f (D + 1) (by omega)]; try omega
    rw [e1, e2]; try omega
  · have e1 : vV 12 13 (D + 384) (P + (-2651)) = D + 385 := by
      unfold vV; rw [if_pos (by omega), zZ_f ((D + 384) + 1) (by omega)]; try omega
    have e2 : vV 13 12 D P = D + 2 := by
      unfold vV; rw [if_pos (by omega), zZ_t (D + 1) (by omega)]; try omega
    rw [e1, e2]; try omega
  · have e1 : vV 12 13 (D + 384) (P + (-2651)) = D + 386 := by
      unfold vV; rw [if_pos (by omega), zZ_t ((D + 384) + 1) (by omega)]; try omega
    have e2 : vV 13 12 D P = D + 1 := by
      unfold vV; rw [if_pos (by omega), zZ_f (D + 1) (by omega)]; try omega
    rw [e1, e2]; try omega
  · have e1 : vV 12 13 (D + 384) (P + (-2651)) = D + 385 := by
      unfold vV; rw [if_pos (by omega), zZ_f ((D + 384) + 1) (by omega)]; try omega
    have e2 : vV 13 12 D P = D + 2 := by
      unfold vV; rw [if_pos (by omega), zZ_t (D + 1) (by omega)]; try omega
    rw [e1, e2]; try omega
theorem len_12_13_12 (D P : Int) (h0 : 0 ≤ P) (h1 : P < 25920) (D2 P2 : Int) (g0 : 0 ≤ P2) (g1 : P2 < 25920) (hs : 25920 * D2 + P2 = 25920 * D + P + 765433 * 13) : vV 12 13 D2 P2 - vV 13 12 D P = 383 ∨ vV 12 13 D2 P2 - vV 13 12 D P = 384 ∨ vV 12 13 D2 P2 - vV 13 12 D P = 385 := by
  by_cases c0 : P < 2651
  · have q := len_12_13_12_0 D P (by omega) (by omega); rw [show D2 = D + 383 by omega, show P2 = P + (23269) by omega]; exact q
  by_cases c1 : P < 12575
  · have q := len_12_13_12_1 D P (by omega) (by omega); rw [show D2 = D + 384 by omega, show P2 = P + (-2651) by omega]; exact q
  by_cases c2 : P < 19440
  · have q := len_12_13_12_2 D P (by omega) (by omega); rw [show D2 = D + 384 by omega, show P2 = P + (-2651) by omega]; exact q
  by_cases c3 : P < 22091
  · have q := len_12_13_12_3 D P (by omega) (by omega); rw [show D2 = D + 384 by omega, show P2 = P + (-2651) by omega]; exact q
  have q := len_12_13_12_4 D P (by omega) (by omega); rw [show D2 = D + 384 by omega, show P2 = P + (-2651) by omega]; exact q
theorem len_13_12_12_0 (D P : Int) (h0 : 0 ≤ P) (h1 : P < 408) : vV 12 12 (D + 354) (P + (9516)) - vV 12 13 D P = 353 ∨ vV 12 12 (D + 354) (P + (9516)) - vV 12 13 D P = 354 ∨ vV 12 12 (D + 354) (P + (9516)) - vV 12 13 D P = 355 := by
  have hr : D % 7 = 0 ∨ D % 7 = 1 ∨ D % 7 = 2 ∨ D % 7 = 3 ∨ D % 7 = 4 ∨ D % 7 = 5 ∨ D % 7 = 6 := by omega
  rcases hr with hr | hr | hr | hr | hr | hr | hr
  · have e1 : vV 12 12 (D + 354) (P + (9516)) = D + 354 := by
      unfold vV; rw [if_neg (by omega), if_neg (by omega), if_neg (by omega), zZ_f (D + 354) (by omega)]; try omega
    have e2 : vV 12 13 D P = D + 1 := by
      unfold vV; rw [if_neg (by omega), if_neg (by omega), if_neg (by omega), zZ_t D (by omega)]; try omega
    rw [e1, e2]; try omega
  · have e1 : vV 12 12 (D + 354) (P + (9516)) = D + 355 := by
      unfold vV; rw [if_neg (by omega), if_neg (by omega), if_neg (by omega), zZ_t (D + 354) (by omega)]; try omega
    have e2 : vV 12 13 D P = D + 0 := by
      unfold vV; rw [if_neg (by omega), if_neg (by omega), if_neg (by omega), zZ_f D (by omega)]; try omega
    rw [e1, e2]; try omega
  · have e1 : vV 12 12 (D + 354) (P + (9516)) = D + 354 := by
      unfold vV; rw [if_neg (by omega), if_neg (by omega), if_neg (by omega), zZ_f (D + 354) (by omega)]; try omega
    have e2 : vV 12 13 D P = D + 0 := by
      unfold vV; rw [if_neg (by omega), if_neg (by omega), if_neg (by omega), zZ_f D (by omega)]; try omega
    rw [e1, e2]; try omega
  · have e1 : vV 12 12 (D + 354) (P + (9516)) = D + 355 := by
      unfold vV; rw [if_neg (by omega), if_neg (by omega), if_neg (by omega), zZ_t (D + 354) (by omega)]; try omega
    have e2 : vV 12 13 D P = D + 1 := by
      unfold vV; rw [if_neg (by omega), if_neg (by omega), if_neg (by omega), zZ_t D (by omega)]; try omega
    rw [e1, e2]; try omega
  · have e1 : vV 12 12 (D + 354) (P + (9516)) = D + 354 := by
      unfold vV; rw [if_neg (by omega), if_neg (by omega), if_neg (by omega), zZ_f (D + 354) (by omega)]; try omega
    have e2 : vV 12 13 D P = D + 0 := by
      unfold vV; rw [if_neg (by omega), if_neg (by omega), if_neg (by omega), zZ_f D (by omega)]; try omega
    rw [e1, e2]; try omega
  · have e1 : vV 12 12 (D + 354) (P + (9516)) = D + 354 := by
      unfold vV; rw [if_neg (by omega), if_neg (by omega), if_neg (by omega), zZ_f (D + 354) (by omega)]; try omega
    have e2 : vV 12 13 D P = D + 1 := by
      unfold vV; rw [if_neg (by omega), if_neg (by omega), if_neg (by omega), zZ_t D (by omega)]; try omega
    rw [e1, e2]; try omega
  · have e1 : vV 12 12 (D + 354) (P + (9516)) = D + 355 := by
      unfold vV; rw [if_neg (by omega), if_neg (by omega), if_neg (by omega), zZ_t (D + 354) (by omega)]; try omega
    have e2 : vV 12 13 D P = D + 0 := by
      unfold vV; rw [if_neg (by omega), if_neg (by omega), if_neg (by omega), zZ_f D (by omega)]; try omega
    rw [e1, e2]; try omega
theorem len_13_12_12_1 (D P : Int) (h0 : 408 ≤ P) (h1 : P < 9924) : vV 12 12 (D + 354) (P + (9516)) - vV 12 13 D P = 353 ∨ vV 12 12 (D + 354) (P + (9516)) - vV 12 13 D P = 354 ∨ vV 12 12 (D + 354) (P + (9516)) - vV 12 13 D P = 355 := by
  have hr : D % 7 = 0 ∨ D % 7 = 1 ∨ D % 7 = 2 ∨ D % 7 = 3 ∨ D % 7 = 4 ∨ D % 7 = 5 ∨ D % 7 = 6 := by omega
  rcases hr with hr | hr | hr | hr | hr | hr | hr
  · have e1 : vV 12 12 (D + 354) (P + (9516)) = D + 354 := by
      unfold vV; rw [if_neg (by omega), if_neg (by omega), if_neg (by omega), zZ_f (D + 354) (by omega)]; try omega
    have e2 : vV 12 13 D P = D + 1 := by
      unfold vV; rw [if_neg (by omega), if_neg (by omega), if_neg (by omega), zZ_t D (by omega)]; try omega
    rw [e1, e2]; try omega
  · have e1 : vV 12 12 (D + 354) (P + (9516)) = D + 355 := by
      unfold vV; rw [if_neg (by omega), if_neg (by omega), if_neg (by omega), zZ_t (D + 354) (by omega)]; try omega
    have e2 : vV 12 13 D P = D + 0 := by
      unfold vV; rw [if_neg (by omega), if_neg (by omega), if_neg (by omega), zZ_f D (by omega)]; try omega
    rw [e1, e2]; try omega
  · have e1 : vV 12 12 (D + 354) (P + (9516)) = D + 354 := by
      unfold vV; rw [if_neg (by omega), if_neg (by omega), if_neg (by omega), zZ_f (D + 354) (by omega)]; try omega
    have e2 : vV 12 13 D P = D + 0 := by
      unfold vV; rw [if_neg (by omega), if_neg (by omega), if_neg (by omega), zZ_f D (by omega)]; try omega
    rw [e1, e2]; try omega
  · have e1 : vV 12 12 (D + 354) (P + (9516)) = D + 355 := by
      unfold vV; rw [if_neg (by omega), if_neg (by omega), if_neg (by omega), zZ_t (D + 354) (by omega)]; try omega
    have e2 : vV 12 13 D P = D + 1 := by
      unfold vV; rw [if_neg (by omega), if_neg (by omega), if_neg (by omega), zZ_t D (by omega)]; try omega
    rw [e1, e2]; try omega
  · have e1 : vV 12 12 (D + 354) (P + (9516)) = D + 354 := by
      unfold vV; rw [if_neg (by omega), if_neg (by omega), if_neg (by omega), zZ_f (D + 354) (by omega)]; try omega
    have e2 : vV 12 13 D P = D + 0 := by
      unfold vV; rw [if_neg (by omega), if_neg (by omega), if_neg (by omega), zZ_f D (by omega)]; try omega
    rw [e1, e2]; try omega
  · have e1 : vV 12 12 (D + 354) (P + (9516)) = D + 356 := by
      unfold vV; rw [if_neg (by omega), if_pos (by omega), zZ_t ((D + 354) + 1) (by omega)]; try omega
    have e2 : vV 12 13 D P = D + 1 := by
      unfold vV; rw [if_neg (by omega), if_neg (by omega), if_neg (by omega), zZ_t D (by omega)]; try omega
    rw [e1, e2]; try omega
  · have e1 : vV 12 12 (D + 354) (P + (9516)) = D + 355 := by
      unfold vV; rw [if_neg (by omega), if_neg (by omega), if_neg (by omega), zZ_t (D + 354) (by omega)]; try omega
    have e2 : vV 12 13 D P = D + 0 := by
      unfold vV; rw [if_neg (by omega), if_neg (by omega), if_neg (by omega), zZ_f D (by omega)]; try omega
    rw [e1, e2]; try omega
theorem len_13_12_12_2 (D P : Int) (h0 : 9924 ≤ P) (h1 : P < 16404) : vV 12 12 (D + 354) (P + (9516)) - vV 12 13 D P = 353 ∨ vV 12 12 (D + 354) (P + (9516)) - vV 12 13 D P = 354 ∨ vV 12 12 (D + 354) (P + (9516)) - vV 12 13 D P = 355 := by
  have hr : D % 7 = 0 ∨ D % 7 = 1 ∨ D % 7 = 2 ∨ D % 7 = 3 ∨ D % 7 = 4 ∨ D % 7 = 5 ∨ D % 7 = 6 := by omega
  rcases hr with hr | hr | hr | hr | hr | hr | hr
  · have e1 : vV 12 12 (D + 354) (P + (9516)) = D + 356 := by
      unfold vV; rw [if_pos (by omega), zZ_t ((D + 354) + 1) (by omega)]; try omega
    have e2 : vV 12 13 D P = D + 1 := by
      unfold vV; rw [if_neg (by omega), if_neg (by omega), if_neg (by omega), zZ_t D (by omega)]; try omega
    rw [e1, e2]; try omega
  · have e1 : vV 12 12 (D + 354) (P + (9516)) = D + 355 := by
      unfold vV; rw [if_pos (by omega), zZ_f ((D + 354) + 1) (by omega)]; try omega
    have e2 : vV 12 13 D P = D + 0 := by
      unfold vV; rw [if_neg (by omega), if_neg (by omega), if_neg (by omega), zZ_f D (by omega)]; try omega
    rw [e1, e2]; try omega
  · have e1 : vV 12 12 (D + 354) (P + (9516)) = D + 356 := by
      unfold vV; rw [if_pos (by omega), zZ_t ((D + 354) + 1) (by omega)]; try omega
    have e2 : vV 12 13 D P = D + 2 := by
      unfold vV; rw [if_neg (by omega), if_pos (by omega), zZ_t (D + 1) (by omega)]; try omega
    rw [e1, e2]; try omega
  · have e1 : vV 12 12 (D + 354) (P + (9516)) = D + 355 := by
      unfold vV; rw [if_pos (by omega), zZ_f ((D + 354) + 1) (by omega)]; try omega
    have e2 : vV 12 13 D P = D + 1 := by
      unfold vV; rw [if_neg (by omega), if_neg (by omega), if_neg (by omega), zZ_t D (by omega)]; try omega
    rw [e1, e2]; try omega
  · have e1 : vV 12 12 (D + 354) (P + (9516)) = D + 355 := by
      unfold vV; rw [if_pos (by omega), zZ_f ((D + 354) + 1) (by omega)]; try omega
    have e2 : vV 12 13 D P = D + 0 := by
      unfold vV; rw [if_neg (by omega), if_neg (by omega), if_neg (by omega), zZ_f D (by omega)]; try omega
    rw [e1, e2]; try omega
  · have e1 : vV 12 12 (D + 354) (P + (9516)) = D + 356 := by
      unfold vV; rw [if_pos (by omega), zZ_t ((D + 354) + 1) (by omega)]; try omega
    have e2 : vV 12 13 D P = D + 1 := by
      unfold vV; rw [if_neg (by omega), if_neg (by omega), if_neg (by omega), zZ_t D (by omega)]; try omega
    rw [e1, e2]; try omega
  · have e1 : vV 12 12 (D + 354) (P + (9516)) = D + 355 := by
      unfold vV; rw [if_pos (by omega), zZ_f ((D + 354) + 1) (by omega)]; try omega
    have e2 : vV 12 13 D P = D + 0 := by
      unfold vV; rw [if_neg (by omega), if_neg (by omega), if_neg (by omega), zZ_f D (by omega)]; try omega
    rw [e1, e2]; try omega
theorem len_13_12_12_3 (D P : Int) (h0 : 16404 ≤ P) (h1 : P < 16789) : vV 12 12 (D + 355) (P + (-16404)) - vV 12 13 D P = 353 ∨ vV 12 12 (D + 355) (P + (-16404)) - vV 12 13 D P = 354 ∨ vV 12 12 (D + 355) (P + (-16404)) - vV 12 13 D P = 355 := by
  have hr : D % 7 = 0 ∨ D % 7 = 1 ∨ D % 7 = 2 ∨ D % 7 = 3 ∨ D % 7 = 4 ∨ D % 7 = 5 ∨ D % 7 = 6 := by omega
  rcases hr with hr | hr | hr | hr | hr | hr | hr
  · have e1 : vV 12 12 (D + 355) (P + (-16404)) = D + 356 := by
      unfold vV; rw [if_neg (by omega), if_neg (by omega), if_neg (by omega), zZ_t (D + 355) (by omega)]; try omega
    have e2 : vV 12 13 D P = D + 1 := by
      unfold vV; rw [if_neg (by omega), if_neg (by omega), if_neg (by omega), zZ_t D (by omega)]; try omega
    rw [e1, e2]; try omega
  · have e1 : vV 12 12 (D + 355) (P + (-16404)) = D + 355 := by
      unfold vV; rw [if_neg (by omega), if_neg (by omega), if_neg (by omega), zZ_f (D + 355) (by omega)]; try omega
    have e2 : vV 12 13 D P = D + 0 := by
      unfold vV; rw [if_neg (by omega), if_neg (by omega), if_neg (by omega), zZ_f D (by omega)]; try omega
    rw [e1, e2]; try omega
  · have e1 : vV 12 12 (D + 355) (P + (-16404)) = D + 356 := by
      unfold vV; rw [if_neg (by omega), if_neg (by omega), if_neg (by omega), zZ_t (D + 355) (by omega)]; try omega
    have e2 : vV 12 13 D P = D + 2 := by
      unfold vV; rw [if_neg (by omega), if_pos (by omega), zZ_t (D + 1) (by omega)]; try omega
    rw [e1, e2]; try omega
  · have e1 : vV 12 12 (D + 355) (P + (-16404)) = D + 355 := by
      unfold vV; rw [if_neg (by omega), if_neg (by omega), if_neg (by omega), zZ_f (D + 355) (by omega)]; try omega
    have e2 : vV 12 13 D P = D + 1 := by
      unfold vV; rw [if_neg (by omega), if_neg (by omega), if_neg (by omega), zZ_t D (by omega)]; try omega
    rw [e1, e2]; try omega
  · have e1 : vV 12 12 (D + 355) (P + (-16404)) = D + 355 := by
      unfold vV; rw [if_neg (by omega), if_neg (by omega), if_neg (by omega), zZ_f (D + 355) (by omega)]; try omega
    have e2 : vV 12 13 D P = D + 0 := by
      unfold vV; rw [if_neg (by omega), if_neg (by omega), if_neg (by omega), zZ_f D (by omega)]; try omega
    rw [e1, e2]; try omega
  · have e1 : vV 12 12 (D + 355) (P + (-16404)) = D + 356 := by
      unfold vV; rw [if_neg (by omega), if_neg (by omega), if_neg (by omega), zZ_t (D + 355) (by omega)]; try omega
    have e2 : vV 12 13 D P = D + 1 := by
      unfold vV; rw [if_neg (by omega), if_neg (by omega), if_neg (by omega), zZ_t D (by omega)]; try omega
    rw [e1, e2]; try omega
  · have e1 : vV 12 12 (D + 355) (P + (-16404)) = D + 355 := by
      unfold vV; rw [if_neg (by omega), if_neg (by omega), if_neg (by omega), zZ_f (D + 355) (by omega)]; try omega
    have e2 : vV 12 13 D P = D + 0 := by
      unfold vV; rw [if_neg (by omega), if_neg (by omega), if_neg (by omega), zZ_f D (by omega)]; try omega
    rw [e1, e2]; try omega
theorem len_13_12_12_4 (D P : Int) (h0 : 16789 ≤ P) (h1 : P < 19440) : vV 12 12 (D + 355) (P + (-16404)) - vV 12 13 D P = 353 ∨ vV 12 12 (D + 355) (P + (-16404)) - vV 12 13 D P = 354 ∨ vV 12 12 (D + 355) (P + (-16404)) - vV 12 13 D P = 355 := by
  have hr : D % 7 = 0 ∨ D % 7 = 1 ∨ D % 7 = 2 ∨ D % 7 = 3 ∨ D % 7 = 4 ∨ D % 7 = 5 ∨ D % 7 = 6 := by omega
  rcases hr with hr | hr | hr | hr | hr | hr | hr
  · have e1 : vV 12 12 (D + 355) (P + (-16404)) = D + 356 := by
      unfold vV; rw [if_neg (by omega), if_neg (by omega), if_neg (by omega), zZ_t (D + 355) (by omega)]; try omega
    have e2 : vV 12 13 D P = D + 1 := by
      unfold vV; rw [if_neg (by omega), if_neg (by omega), if_neg (by omega), zZ_t D (by omega)]; try omega
    rw [e1, e2]; try omega
  · have e1 : vV 12 12 (D + 355) (P + (-16404)) = D + 355 := by
      unfold vV; rw [if_neg (by omega), if_neg (by omega), if_neg (by omega), zZ_f (D + 355) (by omega)]; try omega
    have e2 : vV 12 13 D P = D + 1 := by
      unfold vV; rw [if_neg (by omega), if_neg (by omega), if_pos (by omega), zZ_f (D + 1) (by omega)]; try omega
    rw [e1, e2]; try omega
  · have e1 : vV 12 12 (D + 355) (P + (-16404)) = D + 356 := by
      unfold vV; rw [if_neg (by omega), if_neg (by omega), if_neg (by omega), zZ_t (D + 355) (by omega)]; try omega
    have e2 : vV 12 13 D P = D + 2 := by
      unfold vV; rw [if_neg (by omega), if_pos (by omega), zZ_t (D + 1) (by omega)]; try omega
    rw [e1, e2]; try omega
  · have e1 : vV 12 12 (D + 355) (P + (-16404)) = D + 355 := by
      unfold vV; rw [if_neg (by omega), if_neg (by omega), if_neg (by omega), zZ_f (D + 355) (by omega)]; try omega
    have e2 : vV 12 13 D P = D + 1 := by
      unfold vV; rw [if_neg (by omega), if_neg (by omega), if_neg (by omega), zZ_t D (by omega)]; try omega
    rw [e1, e2]; try omega
  · have e1 : vV 12 12 (D + 355) (P + (-16404)) = D + 355 := by
      unfold vV; rw [if_neg (by omega), if_neg (by omega), if_neg (by omega), zZ_f (D + 355) (by omega)]; try omega
    have e2 : vV 12 13 D P = D + 0 := by
      unfold vV; rw [if_neg (by omega), if_neg (by omega), if_neg (by omega), zZ_f D (by omega)]; try omega
    rw [e1, e2]; try omega
  · have e1 : vV 12 12 (D + 355) (P + (-16404)) = D + 356 := by
      unfold vV; rw [if_neg (by omega), if_neg (by omega), if_neg (by omega), zZ_t (D + 355) (by omega)]; try omega
    have e2 : vV 12 13 D P = D + 1 := by
      unfold vV; rw [if_neg (by omega), if_neg (by omega), if_neg (by omega), zZ_t D (by omega)]; try omega
    rw [e1, e2]; try omega
  · have e1 : vV 12 12 (D + 355) (P + (-16404)) = D + 355 := by
      unfold vV; rw [if_neg (by omega), if_neg (by omega), if_neg (by omega), zZ_f (D + 355) (by omega)]; try omega
    have e2 : vV 12 13 D P = D + 0 := by
      unfold vV; rw [if_neg (by omega), if_neg (by omega), if_neg (by omega), zZ_f D (by omega)]; try omega
    rw [e1, e2]; try omega
theorem len_13_12_12_5 (D P : Int) (h0 : 19440 ≤ P) (h1 : P < 25920) : vV 12 12 (D + 355) (P + (-16404)) - vV 12 13 D P = 353 ∨ vV 12 12 (D + 355) (P + (-16404)) - vV 12 13 D P = 354 ∨ vV 12 12 (D + 355) (P + (-16404)) - vV 12 13 D P = 355 := by
  have hr : D % 7 = 0 ∨ D % 7 = 1 ∨ D % 7 = 2 ∨ D % 7 = 3 ∨ D % 7 = 4 ∨ D % 7 = 5 ∨ D % 7 = 6 := by omega
  rcases hr with hr | hr | hr | hr | hr | hr | hr
  · have e1 : vV 12 12 (D + 355) (P + (-16404)) = D + 356 := by
      unfold vV; rw [if_neg (by omega), if_neg (by omega), if_neg (by omega), zZ_t (D + 355) (by omega)]; try omega
    have e2 : vV 12 13 D P = D + 1 := by
      unfold vV; rw [if_pos (by omega), zZ_f (D + 1) (by omega)]; try omega
    rw [e1, e2]; try omega
  · have e1 : vV 12 12 (D + 355) (P + (-16404)) = D + 355 := by
      unfold vV; rw [if_neg (by omega), if_neg (by omega), if_neg (by omega), zZ_f (D + 355) (by omega)]; try omega
    have e2 : vV 12 13 D P = D + 1 := by
      unfold vV; rw [if_pos (by omega), zZ_f (D + 1) (by omega)]; try omega
    rw [e1, e2]; try omega
  · have e1 : vV 12 12 (D + 355) (P + (-16404)) = D + 356 := by
      unfold vV; rw [if_neg (by omega), if_neg (by omega), if_neg (by omega), zZ_t (D + 355) (by omega)]; try omega
    have e2 : vV 12 13 D P = D + 2 := by
      unfold vV; rw [if_pos (by omega), zZ_t (D + 1) (by omega)]; try omega
    rw [e1, e2]; try omega
  · have e1 : vV 12 12 (D + 355) (P + (-16404)) = D + 355 := by
      unfold vV; rw [if_neg (by omega), if_neg (by omega), if_neg (by omega), zZ_f (D + 355) (by omega)]; try omega
    have e2 : vV 12 13 D P = D + 1 := by
      unfold vV; rw [if_pos (by omega), zZ_f (D + 1) (by omega)]; try omega
    rw [e1, e2]; try omega
  · have e1 : vV 12 12 (D + 355) (P + (-16404)) = D + 355 := by
      unfold vV; rw [if_neg (by omega), if_neg (by omega), if_neg (by omega), zZ_f (D + 355) (by omega)]; try omega
    have e2 : vV 12 13 D P = D + 2 := by
      unfold vV; rw [if_pos (by omega), zZ_t (D + 1) (by omega)]; try omega
    rw [e1, e2]; try omega
  · have e1 : vV 12 12 (D + 355) (P + (-16404)) = D + 356 := by
      unfold vV; rw [if_neg (by omega), if_neg (by omega), if_neg (by omega), zZ_t (D + 355) (by omega)]; try omega
    have e2 : vV 12 13 D P = D + 1 := by
      unfold vV; rw [if_pos (by omega), zZ_f (D + 1) (by omega)]; try omega
    rw [e1, e2]; try omega
  · have e1 : vV 12 12 (D + 355) (P + (-16404)) = D + 355 := by
      unfold vV; rw [if_neg (by omega), if_neg (by omega), if_neg (by omega), zZ_f (D + 355) (by omega)]; try omega
    have e2 : vV 12 13 D P = D + 2 := by
      unfold vV; rw [if_pos (by omega), zZ_t (D + 1) (by omega)]; try omega
    rw [e1, e2]; try omega
theorem len_13_12_12 (D P : Int) (h0 : 0 ≤ P) (h1 : P < 25920) (D2 P2 : Int) (g0 : 0 ≤ P2) (g1 : P2 < 25920) (hs : 25920 * D2 + P2 = 25920 * D + P + 765433 * 12) : vV 12 12 D2 P2 - vV 12 13 D P = 353 ∨ vV 12 12 D2 P2 - vV 12 13 D P = 354 ∨ vV 12 12 D2 P2 - vV 12 13 D P = 355 := by
  by_cases c0 : P < 408
  · have q := len_13_12_12_0 D P (by omega) (by omega); rw [show D2 = D + 354 by omega, show P2 = P + (9516) by omega]; exact q
  by_cases c1 : P < 9924
  · have q := len_13_12_12_1 D P (by omega) (by omega); rw [show D2 = D + 354 by omega, show P2 = P + (9516) by omega]; exact q
  by_cases c2 : P < 16404
  · have q := len_13_12_12_2 D P (by omega) (by omega); rw [show D2 = D + 354 by omega, show P2 = P + (9516) by omega]; exact q
  by_cases c3 : P < 16789
  · have q := len_13_12_12_3 D P (by omega) (by omega); rw [show D2 = D + 355 by omega, show P2 = P + (-16404) by omega]; exact q
  by_cases c4 : P < 19440
  · have q := len_13_12_12_4 D P (by omega) (by omega); rw [show D2 = D + 355 by omega, show P2 = P + (-16404) by omega]; exact q
  have q := len_13_12_12_5 D P (by omega) (by omega); rw [show D2 = D + 355 by omega, show P2 = P + (-16404) by omega]; exact q
theorem len_13_12_13_0 (D P : Int) (h0 : 0 ≤ P) (h1 : P < 9924) : vV 13 12 (D + 354) (P + (9516)) - vV 12 13 D P = 353 ∨ vV 13 12 (D + 354) (P + (9516)) - vV 12 13 D P = 354 ∨ vV 13 12 (D + 354) (P + (9516)) - vV 12 13 D P = 355 := by
  have hr : D % 7 = 0 ∨ D % 7 = 1 ∨ D % 7 = 2 ∨ D % 7 = 3 ∨ D % 7 = 4 ∨ D % 7 = 5 ∨ D % 7 = 6 := by omega
  rcases hr with hr | hr | hr | hr | hr | hr | hr
  · have e1 : vV 13 12 (D + 354) (P + (9516)) = D + 354 := by
      unfold vV; rw [if_neg (by omega), if_neg (by omega), if_neg (by omega), zZ_f (D + 354) (by omega)]; try omega
    have e2 : vV 12 13 D P = D + 1 := by
      unfold vV; rw [if_neg (by omega), if_neg (by omega), if_neg (by omega), zZ_t D (by omega)]; try omega
    rw [e1, e2]; try omega
  · have e1 : vV 13 12 (D + 354) (P + (9516)) = D + 355 := by
      unfold vV; rw [if_neg (by omega), if_neg (by omega), if_neg (by omega), zZ_t (D + 354) (by omega)]; try omega
    have e2 : vV 12 13 D P = D + 0 := by
      unfold vV; rw [if_neg (by omega), if_neg (by omega), if_neg (by omega), zZ_f D (by omega)]; try omega
    rw [e1, e2]; try omega
  · have e1 : vV 13 12 (D + 354) (P + (9516)) = D + 354 := by
      unfold vV; rw [if_neg (by omega), if_neg (by omega), if_neg (by omega), zZ_f (D + 354) (by omega)]; try omega
    have e2 : vV 12 13 D P = D + 0 := by
      unfold vV; rw [if_neg (by omega), if_neg (by omega), if_neg (by omega), zZ_f D (by omega)]; try omega
    rw [e1, e2]; try omega
  · have e1 : vV 13 12 (D + 354) (P + (9516)) = D + 355 := by
      unfold vV; rw [if_neg (by omega), if_neg (by omega), if_neg (by omega), zZ_t (D + 354) (by omega)]; try omega
    have e2 : vV 12 13 D P = D + 1 := by
      unfold vV; rw [if_neg (by omega), if_neg (by omega), if_neg (by omega), zZ_t D (by omega)]; try omega
    rw [e1, e2]; try omega
  · have e1 : vV 13 12 (D + 354) (P + (9516)) = D + 354 := by
      unfold vV; rw [if_neg (by omega), if_neg (by omega), if_neg (by omega), zZ_f (D + 354) (by omega)]; try omega
    have e2 : vV 12 13 D P = D + 0 := by
      unfold vV; rw [if_neg (by omega), if_neg (by omega), if_neg (by omega), zZ_f D (by omega)]; try omega
    rw [e1, e2]; try omega
  · have e1 : vV 13 12 (D + 354) (P + (9516)) = D + 354 := by
      unfold vV; rw [if_neg (by omega), if_neg (by omega), if_neg (by omega), zZ_f (D + 354) (by omega)]; try omega
    have e2 : vV 12 13 D P = D + 1 := by
      unfold vV; rw [if_neg (by omega), if_neg (by omega), if_neg (by omega), zZ_t D (by omega)]; try omega
    rw [e1, e2]; try omega
  · have e1 : vV 13 12 (D + 354) (P + (9516)) = D + 355 := by
      unfold vV; rw [if_neg (by omega), if_neg (by omega), if_neg (by omega), zZ_t (D + 354) (by omega)]; try omega
    have e2 : vV 12 13 D P = D + 0 := by
      unfold vV; rw [if_neg (by omega), if_neg (by omega), if_neg (by omega), zZ_f D (by omega)]; try omega
    rw [e1, e2]; try omega
theorem len_13_12_13_1 (D P : Int) (h0 : 9924 ≤ P) (h1 : P < 16404) : vV 13 12 (D + 354) (P + (9516)) - vV 12 13 D P = 353 ∨ vV 13 12 (D + 354) (P + (9516)) - vV 12 13 D P = 354 ∨ vV 13 12 (D + 354) (P + (9516)) - vV 12 13 D P = 355 := by
  have hr : D % 7 = 0 ∨ D % 7 = 1 ∨ D % 7 = 2 ∨ D % 7 = 3 ∨ D % 7 = 4 ∨ D % 7 = 5 ∨ D % 7 = 6 := by omega
  rcases hr with hr | hr | hr | hr | hr | hr | hr
  · have e1 : vV 13 12 (D + 354) (P + (9516)) = D + 356 := by
      unfold vV; rw [if_pos (by omega), zZ_t ((D + 354) + 1) (by omega)]; try omega
    have e2 : vV 12 13 D P = D + 1 := by
      unfold vV; rw [if_neg (by omega), if_neg (by omega), if_neg (by omega), zZ_t D (by omega)]; try omega
    rw [e1, e2]; try omega
  · have e1 : vV 13 12 (D + 354) (P + (9516)) = D + 355 := by
      unfold vV; rw [if_pos (by omega), zZ_f ((D + 354) + 1) (by omega)]; try omega
    have e2 : vV 12 13 D P = D + 0 := by
      unfold vV; rw [if_neg (by omega), if_neg (by omega), if_neg (by omega), zZ_f D (by omega)]; try omega
    rw [e1, e2]; try omega
  · have e1 : vV 13 12 (D + 354) (P + (9516)) = D + 356 := by
      unfold vV; rw [if_pos (by omega), zZ_t ((D + 354) + 1) (by omega)]; try omega
    have e2 : vV 12 13 D P = D + 2 := by
      unfold vV; rw [if_neg (by omega), if_pos (by omega), zZ_t (D + 1) (by omega)]; try omega
    rw [e1, e2]; try omega
  · have e1 : vV 13 12 (D + 354) (P + (9516)) = D + 355 := by
      unfold vV; rw [if_pos (by omega), zZ_f ((D + 354) + 1) (by omega)]; try omega
    have e2 : vV 12 13 D P = D + 1 := by
      unfold vV; rw [if_neg (by omega), if_neg (by omega), if_neg (by omega), zZ_t D (by omega)]; try omega
    rw [e1, e2]; try omega
  · have e1 : vV 13 12 (D + 354) (P + (9516)) = D + 355 := by
      unfold vV; rw [if_pos (by omega), zZ_f ((D + 354) + 1) (by omega)]; try omega
    have e2 : vV 12 13 D P = D + 0 := by
      unfold vV; rw [if_neg (by omega), if_neg (by omega), if_neg (by omega), zZ_f D (by omega)]; try omega
    rw [e1, e2]; try omega
  · have e1 : vV 13 12 (D + 354) (P + (9516)) = D + 356 := by
      unfold vV; rw [if_pos (by omega), zZ_t ((D + 354) + 1) (by omega)]; try omega
    have e2 : vV 12 13 D P = D + 1 := by
      unfold vV; rw [if_neg (by omega), if_neg (by omega), if_neg (by omega), zZ_t D (by omega)]; try omega
    rw [e1, e2]; try omega
  · have e1 : vV 13 12 (D + 354) (P + (9516)) = D + 355 := by
      unfold vV; rw [if_pos (by omega), zZ_f ((D + 354) + 1) (by omega)]; try omega
    have e2 : vV 12 13 D P = D + 0 := by
      unfold vV; rw [if_neg (by omega), if_neg (by omega), if_neg (by omega), zZ_f D (by omega)]; try omega
    rw [e1, e2]; try omega
theorem len_13_12_13_2 (D P : Int) (h0 : 16404 ≤ P) (h1 : P < 16789) : vV 13 12 (D + 355) (P + (-16404)) - vV 12 13 D P = 353 ∨ vV 13 12 (D + 355) (P + (-16404)) - vV 12 13 D P = 354 ∨ vV 13 12 (D + 355) (P + (-16404)) - vV 12 13 D P = 355 := by
  have hr : D % 7 = 0 ∨ D % 7 = 1 ∨ D % 7 = 2 ∨ D % 7 = 3 ∨ D % 7 = 4 ∨ D % 7 = 5 ∨ D % 7 = 6 := by omega
  rcases hr with hr | hr | hr | hr | hr | hr | hr
  · have e1 : vV 13 12 (D + 355) (P + (-16404)) = D + 356 := by
      unfold vV; rw [if_neg (by omega), if_neg (by omega), if_neg (by omega), zZ_t (D + 355) (by omega)]; try omega
    have e2 : vV 12 13 D P = D + 1 := by
      unfold vV; rw [if_neg (by omega), if_neg (by omega), if_neg (by omega), zZ_t D (by omega)]; try omega
    rw [e1, e2]; try omega
  · have e1 : vV 13 12 (D + 355) (P + (-16404)) = D + 355 := by
      unfold vV; rw [if_neg (by omega), if_neg (by omega), if_neg (by omega), zZ_f (D + 355) (by omega)]; try omega
    have e2 : vV 12 13 D P = D + 0 := by
      unfold vV; rw [if_neg (by omega), if_neg (by omega), if_neg (by omega), zZ_f D (by omega)]; try omega
    rw [e1, e2]; try omega
  · have e1 : vV 13 12 (D + 355) (P + (-16404)) = D + 356 := by
      unfold vV; rw [if_neg (by omega), if_neg (by omega), if_neg (by omega), zZ_t (D + 355) (by omega)]; try omega
    have e2 : vV 12 13 D P = D + 2 := by
      unfold vV; rw [if_neg (by omega), if_pos (by omega), zZ_t (D + 1) (by omega)]; try omega
    rw [e1, e2]; try omega
  · have e1 : vV 13 12 (D + 355) (P + (-16404)) = D + 355 := by
      unfold vV; rw [if_neg (by omega), if_neg (by omega), if_neg (by omega), zZ_f (D + 355) (by omega)]; try omega
    have e2 : vV 12 13 D P = D + 1 := by
      unfold vV; rw [if_neg (by omega), if_neg (by omega), if_neg (by omega), zZ_t D (by omega)]; try omega
    rw [e1, e2]; try omega
  · have e1 : vV 13 12 (D + 355) (P + (-16404)) = D + 355 := by
      unfold vV; rw [if_neg (by omega), if_neg (by omega), if_neg (by omega), zZ_f (D + 355) (by omega)]; try omega
    have e2 : vV 12 13 D P = D + 0 := by
      unfold vV; rw [if_neg (by omega), if_neg (by omega), if_neg (by omega), zZ_f D (by omega)]; try omega
    rw [e1, e2]; try omega
  · have e1 : vV 13 12 (D + 355) (P + (-16404)) = D + 356 := by
      unfold vV; rw [if_neg (by omega), if_neg (by omega), if_neg (by omega), zZ_t (D + 355) (by omega)]; try omega
    have e2 : vV 12 13 D P = D + 1 := by
      unfold vV; rw [if_neg (by omega), if_neg (by omega), if_neg (by omega), zZ_t D (by omega)]; try omega
    rw [e1, e2]; try omega
  · have e1 : vV 13 12 (D + 355) (P + (-16404)) = D + 355 := by
      unfold vV; rw [if_neg (by omega), if_neg (by omega), if_neg (by omega), zZ_f (D + 355) (by omega)]; try omega
    have e2 : vV 12 13 D P = D + 0 := by
      unfold vV; rw [if_neg (by omega), if_neg (by omega), if_neg (by omega), zZ_f D (by omega)]; try omega
    rw [e1, e2]; try omega
theorem len_13_12_13_3 (D P : Int) (h0 : 16789 ≤ P) (h1 : P < 19440) : vV 13 12 (D + 355) (P + (-16404)) - vV 12 13 D P = 353 ∨ vV 13 12 (D + 355) (P + (-16404)) - vV 12 13 D P = 354 ∨ vV 13 12 (D + 355) (P + (-16404)) - vV 12 13 D P = 355 := by
  have hr : D % 7 = 0 ∨ D % 7 = 1 ∨ D % 7 = 2 ∨ D % 7 = 3 ∨ D % 7 = 4 ∨ D % 7 = 5 ∨ D % 7 = 6 := by omega
  rcases hr with hr | hr | hr | hr | hr | hr | hr
  · have e1 : vV 13 12 (D + 355) (P + (-16404)) = D + 356 := by
      unfold vV; rw [if_neg (by omega), if_neg (by omega), if_neg (by omega), zZ_t (D + 355) (by omega)]; try omega
    have e2 : vV 12 13 D P = D + 1 := by
      unfold vV; rw [if_neg (by omega), if_neg (by omega), if_neg (by omega), zZ_t D (by omega)]; try omega
    rw [e1, e2]; try omega
  · have e1 : vV 13 12 (D + 355) (P + (-16404)) = D + 355 := by
      unfold vV; rw [if_neg (by omega), if_neg (by omega), if_neg (by omega), zZ_f (D + 355) (by omega)]; try omega
    have e2 : vV 12 13 D P = D + 1 := by
      unfold vV; rw [if_neg (by omega), if_neg (by omega), if_pos (by omega), zZ_f (D + 1) (by omega)]; try omega
    rw [e1, e2]; try omega
  · have e1 : vV 13 12 (D + 355) (P + (-16404)) = D + 356 := by
      unfold vV; rw [if_neg (by omega), if_neg (by omega), if_neg (by omega), zZ_t (D + 355) (by omega)]; try omega
    have e2 : vV 12 13 D P = D + 2 := by
      unfold vV; rw [if_neg (by omega), if_pos (by omega), zZ_t (D + 1) (by omega)]; try omega
    rw [e1, e2]; try omega
  · have e1 : vV 13 12 (D + 355) (P + (-16404)) = D + 355 := by
      unfold vV; rw [if_neg (by omega), if_neg (by omega), if_neg (by omega), zZ_f (D + 355) (by omega)]; try omega
    have e2 : vV 12 13 D P = D + 1 := by
      unfold vV; rw [if_neg (by omega), if_neg (by omega), if_neg (by omega), zZ_t D (by omega)]; try omega
    rw [e1, e2]; try omega
  · have e1 : vV 13 12 (D + 355) (P + (-16404)) = D + 355 := by
      unfold vV; rw [if_neg (by omega), if_neg (by omega), if_neg (by omega), zZ_f (D + 355) (by omega)]; try omega
    have e2 : vV 12 13 D P = D + 0 := by
      unfold vV; rw [if_neg (by omega), if_neg (by omega), if_neg (by omega), zZ_f D (by omega)]; try omega
    rw [e1, e2]; try omega
  · have e1 : vV 13 12 (D + 355) (P + (-16404)) = D + 356 := by
      unfold vV; rw [if_neg (by omega), if_neg (by omega), if_neg (by omega), zZ_t (D + 355) (by omega)]; try omega
    have e2 : vV 12 13 D P = D + 1 := by
      unfold vV; rw [if_neg (by omega), if_neg (by omega), if_neg (by omega), zZ_t D (by omega)]; try omega
    rw [e1, e2]; try omega
  · have e1 : vV 13 12 (D + 355) (P + (-16404)) = D + 355 := by
      unfold vV; rw [if_neg (by omega), if_neg (by omega), if_neg (by omega), zZ_f (D + 355) (by omega)]; try omega
    have e2 : vV 12 13 D P = D + 0 := by
      unfold vV; rw [if_neg (by omega), if_neg (by omega), if_neg (by omega), zZ_f D (by omega)]; try omega
    rw [e1, e2]; try omega
theorem len_13_12_13_4 (D P : Int) (h0 : 19440 ≤ P) (h1 : P < 25920) : vV 13 12 (D + 355) (P + (-16404)) - vV 12 13 D P = 353 ∨ vV 13 12 (D + 355) (P + (-16404)) - vV 12 13 D P = 354 ∨ vV 13 12 (D + 355) (P + (-16404)) - vV 12 13 D P = 355 := by
  have hr : D % 7 = 0 ∨ D % 7 = 1 ∨ D % 7 = 2 ∨ D % 7 = 3 ∨ D % 7 = 4 ∨ D % 7 = 5 ∨ D % 7 = 6 := by omega
  rcases hr with hr | hr | hr | hr | hr | hr | hr
  · have e1 : vV 13 12 (D + 355) (P + (-16404)) = D + 356 := by
      unfold vV; rw [if_neg (by omega), if_neg (by omega), if_neg (by omega), zZ_t (D + 355) (by omega)]; try omega
    have e2 : vV 12 13 D P = D + 1 := by
      unfold vV; rw [if_pos (by omega), zZ_f (D + 1) (by omega)]; try omega
    rw [e1, e2]; try omega
  · have e1 : vV 13 12 (D + 355) (P + (-16404)) = D + 355 := by
      unfold vV; rw [if_neg (by omega), if_neg (by omega), if_neg (by omega), zZ_f (D + 355) (by omega)]; try omega
    have e2 : vV 12 13 D P = D + 1 := by
      unfold vV; rw [if_pos (by omega), zZ_f (D + 1) (by omega)]; try omega
    rw [e1, e2]; try omega
  · have e1 : vV 13 12 (D + 355) (P + (-16404)) = D + 356 := by
      unfold vV; rw [if_neg (by omega), if_neg (by omega), if_neg (by omega), zZ_t (D + 355) (by omega)]; try omega
    have e2 : vV 12 13 D P = D + 2 := by
      unfold vV; rw [if_pos (by omega), zZ_t (D + 1) (by omega)]; try omega
    rw [e1, e2]; try omega
  · have e1 : vV 13 12 (D + 355) (P + (-16404)) = D + 355 := by
      unfold vV; rw [if_neg (by omega), if_neg (by omega), if_neg (by omega), zZ_f (D + 355) (by omega)]; try omega
    have e2 : vV 12 13 D P = D + 1 := by
      unfold vV; rw [if_pos (by omega), zZ_f (D + 1) (by omega)]; try omega
    rw [e1, e2]; try omega
  · have e1 : vV 13 12 (D + 355) (P + (-16404)) = D + 355 := by
      unfold vV; rw [if_neg (by omega), if_neg (by omega), if_neg (by omega), zZ_f (D + 355) (by omega)]; try omega
    have e2 : vV 12 13 D P = D + 2 := by
      unfold vV; rw [if_pos (by omega), zZ_t (D + 1) (by omega)]; try omega
    rw [e1, e2]; try omega
  · have e1 : vV 13 12 (D + 355) (P + (-16404)) = D + 356 := by
      unfold vV; rw [if_neg (by omega), if_neg (by omega), if_neg (by omega), zZ_t (D + 355) (by omega)]; try omega
    have e2 : vV 12 13 D P = D + 1 := by
      unfold vV; rw [if_pos (by omega), zZ_f (D + 1) (by omega)]; try omega
    rw [e1, e2]; try omega
  · have e1 : vV 13 12 (D + 355) (P + (-16404)) = D + 355 := by
      unfold vV; rw [if_neg (by omega), if_neg (by omega), if_neg (by omega), zZ_f (D + 355) (by omega)]; try omega
    have e2 : vV 12 13 D P = D + 2 := by
      unfold vV; rw [if_pos (by omega), zZ_t (D + 1) (by omega)]; try omega
    rw [e1, e2]; try omega
theorem len_13_12_13 (D P : Int) (h0 : 0 ≤ P) (h1 : P < 25920) (D2 P2 : Int) (g0 : 0 ≤ P2) (g1 : P2 < 25920) (hs : 25920 * D2 + P2 = 25920 * D + P + 765433 * 12) : vV 13 12 D2 P2 - vV 12 13 D P = 353 ∨ vV 13 12 D2 P2 - vV 12 13 D P = 354 ∨ vV 13 12 D2 P2 - vV 12 13 D P = 355 := by
  by_cases c0 : P < 9924
  · have q := len_13_12_13_0 D P (by omega) (by omega); rw [show D2 = D + 354 by omega, show P2 = P + (9516) by omega]; exact q
  by_cases c1 : P < 16404
  · have q := len_13_12_13_1 D P (by omega) (by omega); rw [show D2 = D + 354 by omega, show P2 = P + (9516) by omega]; exact q
  by_cases c2 : P < 16789
  · have q := len_13_12_13_2 D P (by omega) (by omega); rw [show D2 = D + 355 by omega, show P2 = P + (-16404) by omega]; exact q
  by_cases c3 : P < 19440
  · have q := len_13_12_13_3 D P (by omega) (by omega); rw [show D2 = D + 355 by omega, show P2 = P + (-16404) by omega]; exact q
  have q := len_13_12_13_4 D P (by omega) (by omega); rw [show D2 = D + 355 by omega, show P2 = P + (-16404) by omega]; exact q
theorem lp_lng (y : Int) : lp y = lng y := by
  have h : y % 19 = 0 ∨ y % 19 = 1 ∨ y % 19 = 2 ∨ y % 19 = 3 ∨ y % 19 = 4 ∨ y % 19 = 5 ∨ y % 19 = 6 ∨ y % 19 = 7 ∨ y % 19 = 8 ∨ y % 19 = 9 ∨ y % 19 = 10 ∨ y % 19 = 11 ∨ y % 19 = 12 ∨ y % 19 = 13 ∨ y % 19 = 14 ∨ y % 19 = 15 ∨ y % 19 = 16 ∨ y % 19 = 17 ∨ y % 19 = 18 := by omega
  unfold lp lng
  apply decide_eq_decide.mpr
  rcases h with h | h | h | h | h | h | h | h | h | h | h | h | h | h | h | h | h | h | h <;> omega
theorem cnt_eq : ∀ n, n < 19 → cnt n = (235 * (n : Int) + 1) / 19 - 12 * n := by decide +kernel
theorem mo_mth (y : Int) : mo y = mth y := by
  unfold mo mth
  have h : ((y - 1) % 19 + 1 - 1).toNat < 19 := by omega
  rw [cnt_eq _ h]
  omega
def mL (y : Int) : Int := if lng y then 13 else 12
theorem mL_or (y : Int) : (lng y = true ∧ Lg y ∧ mL y = 13) ∨ (lng y = false ∧ ¬ Lg y ∧ mL y = 12) := by
  cases h : lng y with
  | true => exact .inl ⟨rfl, lng_t h, by unfold mL; rw [h]; rfl⟩
  | false => exact .inr ⟨rfl, lng_f h, by unfold mL; rw [h]; rfl⟩
theorem mth_next (y : Int) : mth (y + 1) = mth y + mL y := by
  have g : y % 19 = 0 ∨ y % 19 = 1 ∨ y % 19 = 2 ∨ y % 19 = 3 ∨ y % 19 = 4 ∨ y % 19 = 5 ∨ y % 19 = 6 ∨ y % 19 = 7 ∨ y % 19 = 8 ∨ y % 19 = 9 ∨ y % 19 = 10 ∨ y % 19 = 11 ∨ y % 19 = 12 ∨ y % 19 = 13 ∨ y % 19 = 14 ∨ y % 19 = 15 ∨ y % 19 = 16 ∨ y % 19 = 17 ∨ y % 19 = 18 := by omega
  have h := mL_or y
  unfold Lg at h
  unfold mth
  rcases g with g | g | g | g | g | g | g | g | g | g | g | g | g | g | g | g | g | g | g <;> omega
def xX (y : Int) : Int := 31524 + 765433 * mth y
theorem d1_aA (y : Int) : d1 y = aA (xX y) - 1 := by
  have e : dd y = eE (xX y) - 1 := by unfold dd eE xX; omega
  have h : eE (xX y) % 7 = 0 ∨ eE (xX y) % 7 = 1 ∨ eE (xX y) % 7 = 2 ∨ eE (xX y) % 7 = 3 ∨ eE (xX y) % 7 = 4 ∨ eE (xX y) % 7 = 5 ∨ eE (xX y) % 7 = 6 := by omega
  unfold d1 aA
  rw [e]
  generalize eE (xX y) = E at *
  rcases h with h | h | h | h | h | h | h <;> (repeat' split) <;> omega
theorem xX_next (y : Int) : xX (y + 1) = xX y + 765433 * mL y := by
  unfold xX
  rw [mth_next, Int.mul_add]
  omega
theorem ldF_vV (y D P : Int) : zZ (ldF y D P) = vV (mL y) (mL (y - 1)) D P := by
  have h := mL_or y
  have g := mL_or (y - 1)
  unfold Lg at h g
  unfold ldF vV
  congr 1
  (repeat' split) <;> omega
theorem lny_vV (y : Int) : lny y = 347997 + vV (mL y) (mL (y - 1)) (xX y / 25920) (xX y % 25920) := by
  rw [← ldF_vV]
  unfold lny lnyF zZ xX
  rw [mo_mth]
theorem mL_pair (y : Int) : (mL y = 12 ∧ mL (y - 1) = 12) ∨ (mL y = 12 ∧ mL (y - 1) = 13) ∨ (mL y = 13 ∧ mL (y - 1) = 12) := by
  have h := mL_or y
  have g := mL_or (y - 1)
  unfold Lg at h g
  omega
theorem wW_ny (y : Int) : wW (xX y) (mL y) (mL (y - 1)) = d1 y + 1 + d2 y := by
  have e1 : xX (y + 1) = xX y + 765433 * mL y := xX_next y
  have e2 : xX (y - 1) = xX y - 765433 * mL (y - 1) := by
    have := xX_next (y - 1)
    rw [show y - 1 + 1 = y by omega] at this
    omega
  unfold wW d2
  rw [d1_aA y, d1_aA (y + 1), d1_aA (y - 1), e1, e2]
  rw [show aA (xX y + 765433 * mL y) - 1 - (aA (xX y) - 1) = aA (xX y + 765433 * mL y) - aA (xX y) by omega, show aA (xX y) - 1 - (aA (xX y - 765433 * mL (y - 1)) - 1) = aA (xX y) - aA (xX y - 765433 * mL (y - 1)) by omega]
  omega
theorem lny_ny (y : Int) : lny y = ny y + 2 := by
  have hX : xX y = 25920 * (xX y / 25920) + xX y % 25920 := by omega
  have h0 : 0 ≤ xX y % 25920 := by omega
  have h1 : xX y % 25920 < 25920 := by omega
  have hw := wW_ny y
  rw [hX] at hw
  rw [lny_vV]
  unfold ny
  rcases mL_pair y with ⟨g1, g2⟩ | ⟨g1, g2⟩ | ⟨g1, g2⟩ <;> rw [g1, g2] at hw ⊢
  · rw [core_12_12 _ _ h0 h1] at hw; omega
  · rw [core_12_13 _ _ h0 h1] at hw; omega
  · rw [core_13_12 _ _ h0 h1] at hw; omega
theorem ylen_lny (y : Int) : ylen y = lny (y + 1) - lny y := by
  unfold ylen
  rw [lny_ny, lny_ny]
  omega
theorem ylen_in (y : Int) : (lng y = true ∧ (ylen y = 383 ∨ ylen y = 384 ∨ ylen y = 385)) ∨ (lng y = false ∧ (ylen y = 353 ∨ ylen y = 354 ∨ ylen y = 355)) := by
  have e := xX_next y
  have hl := mL_or y
  have ha := mL_pair y
  have hc := mL_pair (y + 1)
  rw [show y + 1 - 1 = y by omega] at hc
  have nn : ¬ (mL (y - 1) = 12 ∧ mL y = 12 ∧ mL (y + 1) = 12) := by
    have h := mL_or y
    have g := mL_or (y - 1)
    have k := mL_or (y + 1)
    unfold Lg at h g k
    omega
  have l1 := lny_vV (y + 1)
  rw [show y + 1 - 1 = y by omega] at l1
  rw [ylen_lny, l1, lny_vV y]
  have hs : 25920 * (xX (y + 1) / 25920) + xX (y + 1) % 25920 = 25920 * (xX y / 25920) + xX y % 25920 + 765433 * mL y := by omega
  have p0 : 0 ≤ xX y % 25920 := by omega
  have p1 : xX y % 25920 < 25920 := by omega
  have q0 : 0 ≤ xX (y + 1) % 25920 := by omega
  have q1 : xX (y + 1) % 25920 < 25920 := by omega
  clear e l1
  generalize xX y / 25920 = D at *
  generalize xX y % 25920 = P at *
  generalize xX (y + 1) / 25920 = D2 at *
  generalize xX (y + 1) % 25920 = P2 at *
  rcases ha with ⟨g1, g2⟩ | ⟨g1, g2⟩ | ⟨g1, g2⟩ <;> rcases hc with ⟨k1, k2⟩ | ⟨k1, k2⟩ | ⟨k1, k2⟩
  all_goals (first | (exfalso; omega) | skip)
  · have := len_12_12_13 D P p0 p1 D2 P2 q0 q1 (by rw [hs, g1])
    rw [g1, g2, k1]
    rcases hl with ⟨a1, a2, a3⟩ | ⟨a1, a2, a3⟩
    · omega
    · exact .inr ⟨a1, by omega⟩
  · have := len_13_12_12 D P p0 p1 D2 P2 q0 q1 (by rw [hs, g1])
    rw [g1, g2, k1]
    rcases hl with ⟨a1, a2, a3⟩ | ⟨a1, a2, a3⟩
    · omega
    · exact .inr ⟨a1, by omega⟩
  · have := len_13_12_13 D P p0 p1 D2 P2 q0 q1 (by rw [hs, g1])
    rw [g1, g2, k1]
    rcases hl with ⟨a1, a2, a3⟩ | ⟨a1, a2, a3⟩
    · omega
    · exact .inr ⟨a1, by omega⟩
  · have := len_12_13_12 D P p0 p1 D2 P2 q0 q1 (by rw [hs, g1])
    rw [g1, g2, k1]
    rcases hl with ⟨a1, a2, a3⟩ | ⟨a1, a2, a3⟩
    · exact .inl ⟨a1, by omega⟩
    · omega
theorem sg_zero (y a : Int) : sg y a 0 = 0 := rfl
theorem sg_succ (y a : Int) (n : Nat) : sg y a (n + 1) = sg y a n + ml y (a + n) := by
  unfold sg rangeKs
  rw [List.range_succ, List.map_append, List.map_append, List.sum_append]
  simp
end Mine
namespace Mine
open PySem PySem.W PyProof.Rows
def S7 (y : Int) : Nat → Int
  | 0 => 0
  | n + 1 => S7 y n + ml y (7 + n)
def S1 (y : Int) : Nat → Int
  | 0 => 0
  | n + 1 => S1 y n + ml y (1 + n)
theorem S7_0 (y : Int) : S7 y 0 = 0 := rfl
theorem S7_1 (y : Int) : S7 y 1 = 0 + ml y 7 := rfl
theorem S7_2 (y : Int) : S7 y 2 = 0 + ml y 7 + ml y 8 := rfl
theorem S7_3 (y : Int) : S7 y 3 = 0 + ml y 7 + ml y 8 + ml y 9 := rfl
theorem S7_4 (y : Int) : S7 y 4 = 0 + ml y 7 + ml y 8 + ml y 9 + ml y 10 := rfl
theorem S7_5 (y : Int) : S7 y 5 = 0 + ml y 7 + ml y 8 + ml y 9 + ml y 10 + ml y 11 := rfl
theorem S7_6 (y : Int) : S7 y 6 = 0 + ml y 7 + ml y 8 + ml y 9 + ml y 10 + ml y 11 + ml y 12 := rfl
theorem S7_7 (y : Int) : S7 y 7 = 0 + ml y 7 + ml y 8 + ml y 9 + ml y 10 + ml y 11 + ml y 12 + ml y 13 := rfl
theorem S1_0 (y : Int) : S1 y 0 = 0 := rfl
theorem S1_1 (y : Int) : S1 y 1 = 0 + ml y 1 := rfl
theorem S1_2 (y : Int) : S1 y 2 = 0 + ml y 1 + ml y 2 := rfl
theorem S1_3 (y : Int) : S1 y 3 = 0 + ml y 1 + ml y 2 + ml y 3 := rfl
theorem S1_4 (y : Int) : S1 y 4 = 0 + ml y 1 + ml y 2 + ml y 3 + ml y 4 := rfl
theorem S1_5 (y : Int) : S1 y 5 = 0 + ml y 1 + ml y 2 + ml y 3 + ml y 4 + ml y 5 := rfl
theorem S1_6 (y : Int) : S1 y 6 = 0 + ml y 1 + ml y 2 + ml y 3 + ml y 4 + ml y 5 + ml y 6 := rfl
theorem sg7 (y : Int) : ∀ n, sg y 7 n = S7 y n
  | 0 => rfl
  | n + 1 => by rw [sg_succ, sg7 y n]; rfl
theorem sg1 (y : Int) : ∀ n, sg y 1 n = S1 y n
  | 0 => rfl
  | n + 1 => by rw [sg_succ, sg1 y n]; rfl
theorem off_hi (y : Int) (n : Nat) (m : Int) (hm : m = 7 + n) : off y m = S7 y n := by
  unfold off
  rw [if_neg (by omega), show (m - 7).toNat = n by omega, sg7]
theorem off_lo (y : Int) (n : Nat) (m : Int) (hm : m = 1 + n) (h : m < 7) : off y m = S7 y (if lng y then 7 else 6) + S1 y n := by
  unfold off
  rw [if_pos h, show (m - 1).toNat = n by omega, sg1, sg7, lp_lng]
  congr 2
  cases lng y <;> rfl
theorem ml29 (y m : Int) (h : m = 2 ∨ m = 4 ∨ m = 6 ∨ m = 10 ∨ m = 13) : ml y m = 29 := by unfold ml; rw [if_pos h]
theorem ml30 (y m : Int) (h : m = 1 ∨ m = 3 ∨ m = 5 ∨ m = 7 ∨ m = 11) : ml y m = 30 := by
  unfold ml
  rw [if_neg (by omega), if_neg (by omega), if_neg (by omega), if_neg (by omega)]
theorem ml12 (y : Int) : ml y 12 = if lng y then 30 else 29 := by
  unfold ml
  rw [if_neg (by decide), lp_lng]
  cases lng y
  · rw [if_pos (by decide)]; rfl
  · rw [if_neg (by decide), if_neg (by omega), if_neg (by omega)]; rfl
theorem ml8 (y : Int) : ml y 8 = if ylen y % 10 = 5 then 30 else 29 := by
  unfold ml
  rw [if_neg (by decide), if_neg (by omega)]
  by_cases h : ylen y % 10 = 5
  · rw [if_pos h, if_neg (by omega), if_neg (by omega)]
  · rw [if_neg h, if_pos ⟨rfl, h⟩]
theorem ml9 (y : Int) : ml y 9 = if ylen y % 10 = 3 then 29 else 30 := by
  unfold ml
  rw [if_neg (by decide), if_neg (by omega), if_neg (by omega)]
  by_cases h : ylen y % 10 = 3
  · rw [if_pos h, if_pos ⟨rfl, h⟩]
  · rw [if_neg h, if_neg (by omega)]
/-- the months of a year in their order, each with its length -/
def rowsOf (y : Int) : List (Int × Int) :=
  [(7, ml y 7), (8, ml y 8), (9, ml y 9), (10, ml y 10), (11, ml y 11), (12, ml y 12)] ++ (if lng y then [(13, ml y 13)] else []) ++ [(1, ml y 1), (2, ml y 2), (3, ml y 3), (4, ml y 4), (5, ml y 5), (6, ml y 6)]
/-- what holds of the day c at which the months of the list begin -/
def Pc (y : Int) : Int → List (Int × Int) → Prop
  | c, [] => c = lny (y + 1)
  | c, (a, b) :: r => 1 ≤ a ∧ a ≤ 13 ∧ b = ml y a ∧ c = lny y + off y a ∧ Pc y (c + b) r
theorem sums (y : Int) : S7 y (if lng y then 7 else 6) + S1 y 6 = ylen y := by
  have h := ylen_in y
  have a8 := ml8 y
  have a9 := ml9 y
  have a12 := ml12 y
  have a13 := ml29 y 13 (by omega)
  have a7 := ml30 y 7 (by omega)
  have a10 := ml29 y 10 (by omega)
  have a11 := ml30 y 11 (by omega)
  have a1 := ml30 y 1 (by omega)
  have a2 := ml29 y 2 (by omega)
  have a3 := ml30 y 3 (by omega)
  have a4 := ml29 y 4 (by omega)
  have a5 := ml30 y 5 (by omega)
  have a6 := ml29 y 6 (by omega)
  have e6 : S7 y 6 = ml y 7 + ml y 8 + ml y 9 + ml y 10 + ml y 11 + ml y 12 := by simp [S7]
  have e7 : S7 y 7 = S7 y 6 + ml y 13 := by rfl
  have e1 : S1 y 6 = ml y 1 + ml y 2 + ml y 3 + ml y 4 + ml y 5 + ml y 6 := by simp [S1]
  rcases h with ⟨h, g⟩ | ⟨h, g⟩
  · rw [h] at a12 ⊢
    rw [if_pos rfl] at a12 ⊢
    rw [e7, e6, e1]
    rcases g with g | g | g <;> rw [g] at a8 a9 <;> simp at a8 a9 <;> omega
  · rw [h] at a12 ⊢
    rw [if_neg (by decide)] at a12 ⊢
    rw [e6, e1]
    rcases g with g | g | g <;> rw [g] at a8 a9 <;> simp at a8 a9 <;> omega
theorem Pc_start (y : Int) : Pc y (lny y) (rowsOf y) := by
  have hs := sums y
  have hy := ylen_lny y
  have h7 := off_hi y 0 7 rfl
  have h8 := off_hi y 1 8 rfl
  have h9 := off_hi y 2 9 rfl
  have h10 := off_hi y 3 10 rfl
  have h11 := off_hi y 4 11 rfl
  have h12 := off_hi y 5 12 rfl
  have h13 := off_hi y 6 13 rfl
  have h1 := off_lo y 0 1 rfl (by decide)
  have h2 := off_lo y 1 2 rfl (by decide)
  have h3 := off_lo y 2 3 rfl (by decide)
  have h4 := off_lo y 3 4 rfl (by decide)
  have h5 := off_lo y 4 5 rfl (by decide)
  have h6 := off_lo y 5 6 rfl (by decide)
  unfold rowsOf
  cases hl : lng y <;> rw [hl] at hs h1 h2 h3 h4 h5 h6 <;> simp only [Bool.false_eq_true, if_false, if_true, List.cons_append, List.nil_append, Pc, S7_0, S7_1, S7_2, S7_3, S7_4, S7_5, S7_6, S7_7, S1_0, S1_1, S1_2, S1_3, S1_4, S1_5, S1_6] at * <;> (repeat' apply And.intro) <;> first | trivial | rfl | omega
theorem any2_t {d a b : Int} (h : (([a, b] : List Int).any fun x => x == d) = true) : d = a ∨ d = b := by simp at h; omega
theorem any2_f {d a b : Int} (h : (([a, b] : List Int).any fun x => x == d) = false) : d ≠ a ∧ d ≠ b := by simp at h; omega
theorem m8t {y : Int} (h : (([355, 385] : List Int).any fun x => x == lny (y + 1) - lny y) = true) : 30 = ml y 8 := by
  have h := any2_t h
  rw [← ylen_lny] at h
  rw [ml8, if_pos (by omega)]
theorem m8f {y : Int} (h : (([355, 385] : List Int).any fun x => x == lny (y + 1) - lny y) = false) : 29 = ml y 8 := by
  have h := any2_f h
  rw [← ylen_lny] at h
  have g := ylen_in y
  rw [ml8, if_neg (by omega)]
theorem m9t {y : Int} (h : (([353, 383] : List Int).any fun x => x == lny (y + 1) - lny y) = true) : 29 = ml y 9 := by
  have h := any2_t h
  rw [← ylen_lny] at h
  rw [ml9, if_pos (by omega)]
theorem m9f {y : Int} (h : (([353, 383] : List Int).any fun x => x == lny (y + 1) - lny y) = false) : 30 = ml y 9 := by
  have h := any2_f h
  rw [← ylen_lny] at h
  have g := ylen_in y
  rw [ml9, if_neg (by omega)]
theorem rows_t {y b8 b9 : Int} (h8 : b8 = ml y 8) (h9 : b9 = ml y 9) (hl : lng y = true) : rowsOf y = [(7, 30), (8, b8), (9, b9), (10, 29), (11, 30), (12, 30), (13, 29), (1, 30), (2, 29), (3, 30), (4, 29), (5, 30), (6, 29)] := by
  unfold rowsOf
  rw [hl, ← h8, ← h9, ml12, hl, ml30 y 7 (by omega), ml29 y 10 (by omega), ml30 y 11 (by omega), ml29 y 13 (by omega), ml30 y 1 (by omega), ml29 y 2 (by omega), ml30 y 3 (by omega), ml29 y 4 (by omega), ml30 y 5 (by omega), ml29 y 6 (by omega)]
  rfl
theorem rows_f {y b8 b9 : Int} (h8 : b8 = ml y 8) (h9 : b9 = ml y 9) (hl : lng y = false) : rowsOf y = [(7, 30), (8, b8), (9, b9), (10, 29), (11, 30), (12, 29), (1, 30), (2, 29), (3, 30), (4, 29), (5, 30), (6, 29)] := by
  unfold rowsOf
  rw [hl, ← h8, ← h9, ml12, hl, ml30 y 7 (by omega), ml29 y 10 (by omega), ml30 y 11 (by omega), ml30 y 1 (by omega), ml29 y 2 (by omega), ml30 y 3 (by omega), ml29 y 4 (by omega), ml30 y 5 (by omega), ml29 y 6 (by omega)]
  rfl
end Mine
namespace Mine
open PySem PySem.Float64 PySem.W PyProof.Rows PySem.Calls

local macro_rules | `(tactic| k_room) => `(tactic| ktr_room)
local macro_rules | `(tactic| walk_at "binaryOp Mod int int") => `(tactic| (k_here; k_dflt (refine' r_mod_ii ?k1 ?_; (case k1 => decide); k_whole); (try dsimp only)))
local macro_rules | `(tactic| walk_at "binaryOp Div int int") => `(tactic| (k_here; k_dflt (refine' r_div_ii ?k1 ?k2 ?k3 ?_; (case k1 => constructor <;> omega); (case k2 => constructor <;> omega); (case k3 => omega); k_whole); (try dsimp only)))
local macro_rules | `(tactic| walk_at "call builtin:math.floor") => `(tactic| (k_here; k_dflt (refine' r_floor_ii ?k0 ?k1 ?k2 ?k3 ?_; (case k0 => rfl); (case k1 => constructor <;> omega); (case k2 => constructor <;> omega); (case k3 => omega); k_whole; (try dsimp only))))
local macro_rules | `(tactic| walk_at "binaryOp Add float int") => `(tactic| (k_here; k_dflt (refine' r_add_fi ?k0 ?k1 ?k2 ?_; (case k0 => first | with_reducible exact rfl | exact lit_epoch); (case k1 => constructor <;> omega); (case k2 => constructor <;> omega); k_whole); (try dsimp only)))
local macro_rules | `(tactic| walk_at "inplaceOp Add float int") => `(tactic| (k_here; k_dflt (refine' r_iadd_fi ?k0 ?k1 ?k2 ?_; (case k0 => with_reducible exact rfl); (case k1 => constructor <;> omega); (case k2 => constructor <;> omega); k_whole); (try dsimp only)))
local macro_rules | `(tactic| walk_at "binaryOp Add int float") => `(tactic| (k_here; k_dflt (refine' r_add_if ?k0 ?k1 ?k2 ?_; (case k0 => first | with_reducible exact rfl | exact lit_half); (case k1 => constructor <;> omega); (case k2 => constructor <;> omega); k_whole); (try dsimp only)))
local macro_rules | `(tactic| walk_at "binaryOp Sub float float") => `(tactic| (k_here; k_dflt (refine' r_sub_ff ?k0 ?k1 ?k2 ?k3 ?k4 ?_; (case k0 => with_reducible exact rfl); (case k1 => with_reducible exact rfl); (case k2 => constructor <;> omega); (case k3 => constructor <;> omega); (case k4 => omega); k_whole); (try dsimp only)))
local macro_rules | `(tactic| walk_at "binaryOp Mult int float") => `(tactic| (k_here; k_dflt (refine' r_mul_if ?k0 ?k1 ?k2 ?k3 ?k4 ?k5 ?_; (case k0 => with_reducible exact rfl); (case k1 => constructor <;> omega); (case k2 => constructor <;> omega); (case k3 => constructor <;> omega); (case k4 => omega); (case k5 => omega); k_whole); (try dsimp only)))
local macro_rules | `(tactic| walk_at "binaryOp Mod float int") => `(tactic| (k_here; k_dflt (refine' r_mod_fi ?k0 ?k1 ?k2 ?k3 ?_; (case k0 => with_reducible exact rfl); (case k1 => constructor <;> omega); (case k2 => constructor <;> omega); (case k3 => decide); k_whole); (try dsimp only)))
local macro_rules | `(tactic| walk_at "compareOp Eq float int") => `(tactic| (k_here; k_dflt (refine' r_eq_fi ?k0 ?k1 ?_; (case k0 => with_reducible exact rfl); (case k1 => constructor <;> omega); k_whole); (try dsimp only)))
local macro_rules | `(tactic| walk_at "compareOp NotEq float int") => `(tactic| (k_here; k_dflt (refine' r_ne_fi ?k0 ?k1 ?_; (case k0 => with_reducible exact rfl); (case k1 => constructor <;> omega); k_whole); (try dsimp only)))
local macro_rules | `(tactic| walk_at "call type:int") => `(tactic| (k_here; k_dflt (refine' r_int ?k0 ?k1 ?k2 ?_; (case k0 => with_reducible exact rfl); (case k1 => constructor <;> omega); (case k2 => omega); k_whole); (try dsimp only)))
set_option hygiene false in
local macro_rules | `(tactic| walk_at "call builtin:divmod") => `(tactic| (k_here; k_dflt (refine' r_divmod ?k1 ?k2 ?k3 ?_ ?kz; (case k1 => k_asm); (case k2 => k_asm); (case k3 => decide); (case kz => exact Or.inl (PyProof.noPylong_small (by omega))); k_whole); intro dq dr h' hdq hdr F' N'; (try dsimp only)))
local macro_rules | `(tactic| walk_at "binaryOp FloorDiv int int") => `(tactic| (k_here; k_dflt (refine' r_fdiv_ii ?k0 ?k1 ?k2 ?_; (case k0 => rfl); (case k1 => decide); (case k2 => exact Or.inl (PyProof.noPylong_small (by omega))); k_whole); (try dsimp only)))
local macro_rules | `(tactic| walk_at "inplaceOp Add ref") => `(tactic| (k_here; (with_reducible show wpAny _ _ (inplaceOp Operator.Add (Value.ref _) (Value.ref _)) _ _ _); k_dflt (refine' iadd_in ?k1 ?k2 ?k3 ?k4 ?k5 ?k6 ?_; (case k1 => k_asm); (case k2 => k_asm); (case k3 => k_mem); (case k4 => k_mem); (case k5 => first | decide | size_fits); (case k6 => k_upd); k_whole); intro h' F' N'; (try k_sweep)))

section
variable {w : World} {mean : ExcName → Option Value} {mg mb : Str → Option Value}
abbrev G02 (w : World) (mean : ExcName → Option Value) (mg mb : Str → Option Value) := Gives PySem.Challenge.rw_ad5025_02.row.prog w (hd02.heap_39 w.params) hd02.view_39 (looseW hd02.view_39 []) mean mg mb

theorem c_leap (y : Int) (t : Tok) : G02 w mean mg mb 1 49 [.int y t] True (fun _ => .bool (lp y)) := by
  unfold G02
  k_fill
  unfold Gives
  intro dp un gd cn cs a ccd cl outer A₀ base h₀ L m s Q E B F X T hk hroom hunits hret
  refine wpAny_call ?_
  k_dflt (refine' code_defG (news := []) ?k1 ?k2 ?k3 News.nil ?k5 ?kA ?kF ?kK ?k6 ?k7 ?k8 ?k9 ?kB ?_ ?c2 ?c3 ?c4 ?c5; (case kA => exact rfl); (case kF => exact rfl); (case kK => assumption); (case k1 => k_asm); (case k2 => k_asm); (case k3 => k_asm); (case k5 => k_asm); (case k6 => k_is); (case k7 => k_is); (case k8 => ktr_room); (case k9 => exact BindsTo.of_eq rfl); (case c5 => decide); (case kB => exact locs rfl); (case c2 => exact rfl); (case c3 => exact rfl); (case c4 => exact rfl); k_whole; intro g' L' h' FG' F' N' B' X' T' GG; (try dsimp only); (try k_lift B'); (try k_fold))
  k_steps
  all_goals (refine g_end (Q := Q) hret 0 rfl GG (by with_reducible assumption) trivial)

theorem c_d1 (y : Int) (t : Tok) (hy : -10 ≤ y ∧ y ≤ 100000010) : G02 w mean mg mb 1 63 [.int y t] (-10000 ≤ d1 y ∧ d1 y ≤ 36600000000) (fun t => .int (d1 y) t) := by
  unfold G02
  k_fill
  unfold Gives
  intro dp un gd cn cs a ccd cl outer A₀ base h₀ L m s Q E B F X T hk hroom hunits hret
  refine wpAny_call ?_
  k_dflt (refine' code_defG (news := []) ?k1 ?k2 ?k3 News.nil ?k5 ?kA ?kF ?kK ?k6 ?k7 ?k8 ?k9 ?kB ?_ ?c2 ?c3 ?c4 ?c5; (case kA => exact rfl); (case kF => exact rfl); (case kK => assumption); (case k1 => k_asm); (case k2 => k_asm); (case k3 => k_asm); (case k5 => k_asm); (case k6 => k_is); (case k7 => k_is); (case k8 => ktr_room); (case k9 => exact BindsTo.of_eq rfl); (case c5 => decide); (case kB => exact locs rfl); (case c2 => exact rfl); (case c3 => exact rfl); (case c4 => exact rfl); k_whole; intro g' L' h' FG' F' N' B' X' T' GG; (try dsimp only); (try k_lift B'); (try k_fold))
  k_steps
  all_goals (refine g_end (Q := Q) hret _ (congrArg (fun z => Value.int z _) ?_) GG (by with_reducible assumption) ?_)
  all_goals (unfold d1 dd mth; split <;> omega)
end
end Mine
namespace Mine
open PySem PySem.Float64 PySem.W PyProof.Rows PySem.Calls

local macro_rules | `(tactic| k_room) => `(tactic| ktr_room)
local macro_rules | `(tactic| walk_at "binaryOp Mod int int") => `(tactic| (k_here; k_dflt (refine' r_mod_ii ?k1 ?_; (case k1 => decide); k_whole); (try dsimp only)))
local macro_rules | `(tactic| walk_at "binaryOp Div int int") => `(tactic| (k_here; k_dflt (refine' r_div_ii ?k1 ?k2 ?k3 ?_; (case k1 => constructor <;> omega); (case k2 => constructor <;> omega); (case k3 => omega); k_whole); (try dsimp only)))
local macro_rules | `(tactic| walk_at "call builtin:math.floor") => `(tactic| (k_here; k_dflt (refine' r_floor_ii ?k0 ?k1 ?k2 ?k3 ?_; (case k0 => rfl); (case k1 => constructor <;> omega); (case k2 => constructor <;> omega); (case k3 => omega); k_whole; (try dsimp only))))
local macro_rules | `(tactic| walk_at "binaryOp Add float int") => `(tactic| (k_here; k_dflt (refine' r_add_fi ?k0 ?k1 ?k2 ?_; (case k0 => first | with_reducible exact rfl | exact lit_epoch); (case k1 => constructor <;> omega); (case k2 => constructor <;> omega); k_whole); (try dsimp only)))
local macro_rules | `(tactic| walk_at "inplaceOp Add float int") => `(tactic| (k_here; k_dflt (refine' r_iadd_fi ?k0 ?k1 ?k2 ?_; (case k0 => with_reducible exact rfl); (case k1 => constructor <;> omega); (case k2 => constructor <;> omega); k_whole); (try dsimp only)))
local macro_rules | `(tactic| walk_at "binaryOp Add int float") => `(tactic| (k_here; k_dflt (refine' r_add_if ?k0 ?k1 ?k2 ?_; (case k0 => first | with_reducible exact rfl | exact lit_half); (case k1 => constructor <;> omega); (case k2 => constructor <;> omega); k_whole); (try dsimp only)))
local macro_rules | `(tactic| walk_at "binaryOp Sub float float") => `(tactic| (k_here; k_dflt (refine' r_sub_ff ?k0 ?k1 ?k2 ?k3 ?k4 ?_; (case k0 => with_reducible exact rfl); (case k1 => with_reducible exact rfl); (case k2 => constructor <;> omega); (case k3 => constructor <;> omega); (case k4 => omega); k_whole); (try dsimp only)))
local macro_rules | `(tactic| walk_at "binaryOp Mult int float") => `(tactic| (k_here; k_dflt (refine' r_mul_if ?k0 ?k1 ?k2 ?k3 ?k4 ?k5 ?_; (case k0 => with_reducible exact rfl); (case k1 => constructor <;> omega); (case k2 => constructor <;> omega); (case k3 => constructor <;> omega); (case k4 => omega); (case k5 => omega); k_whole); (try dsimp only)))
local macro_rules | `(tactic| walk_at "binaryOp Mod float int") => `(tactic| (k_here; k_dflt (refine' r_mod_fi ?k0 ?k1 ?k2 ?k3 ?_; (case k0 => with_reducible exact rfl); (case k1 => constructor <;> omega); (case k2 => constructor <;> omega); (case k3 => decide); k_whole); (try dsimp only)))
local macro_rules | `(tactic| walk_at "compareOp Eq float int") => `(tactic| (k_here; k_dflt (refine' r_eq_fi ?k0 ?k1 ?_; (case k0 => with_reducible exact rfl); (case k1 => constructor <;> omega); k_whole); (try dsimp only)))
local macro_rules | `(tactic| walk_at "compareOp NotEq float int") => `(tactic| (k_here; k_dflt (refine' r_ne_fi ?k0 ?k1 ?_; (case k0 => with_reducible exact rfl); (case k1 => constructor <;> omega); k_whole); (try dsimp only)))
local macro_rules | `(tactic| walk_at "call type:int") => `(tactic| (k_here; k_dflt (refine' r_int ?k0 ?k1 ?k2 ?_; (case k0 => with_reducible exact rfl); (case k1 => constructor <;> omega); (case k2 => omega); k_whole); (try dsimp only)))
set_option hygiene false in
local macro_rules | `(tactic| walk_at "call builtin:divmod") => `(tactic| (k_here; k_dflt (refine' r_divmod ?k1 ?k2 ?k3 ?_ ?kz; (case k1 => k_asm); (case k2 => k_asm); (case k3 => decide); (case kz => exact Or.inl (PyProof.noPylong_small (by omega))); k_whole); intro dq dr h' hdq hdr F' N'; (try dsimp only)))
local macro_rules | `(tactic| walk_at "binaryOp FloorDiv int int") => `(tactic| (k_here; k_dflt (refine' r_fdiv_ii ?k0 ?k1 ?k2 ?_; (case k0 => rfl); (case k1 => decide); (case k2 => exact Or.inl (PyProof.noPylong_small (by omega))); k_whole); (try dsimp only)))
local macro_rules | `(tactic| walk_at "inplaceOp Add ref") => `(tactic| (k_here; (with_reducible show wpAny _ _ (inplaceOp Operator.Add (Value.ref _) (Value.ref _)) _ _ _); k_dflt (refine' iadd_in ?k1 ?k2 ?k3 ?k4 ?k5 ?k6 ?_; (case k1 => k_asm); (case k2 => k_asm); (case k3 => k_mem); (case k4 => k_mem); (case k5 => first | decide | size_fits); (case k6 => k_upd); k_whole); intro h' F' N'; (try k_sweep)))

section
variable {w : World} {mean : ExcName → Option Value} {mg mb : Str → Option Value}

local macro_rules | `(tactic| walk_at "call ref") => `(tactic| (k_here; (with_reducible show wpAny _ _ (PySem.call (Value.ref 49) _ _) _ _ _); k_dflt (refine' Gives.use (c_leap _ _) ?k1 ?k2 ?k3 ?k4 ?k5 ?kK ?kd ?ku ?_; (case k1 => k_asm); (case k2 => k_asm); (case k3 => k_asm); (case k4 => k_asm); (case k5 => k_asm); (case kK => first | exact rfl | assumption); (case kd => ktr_room); (case ku => ktr_units); k_whole; intro t9 h9 tk9 F9 N9 S9 P9; (try (have cE9 := InElt.then (by with_reducible assumption) S9)); (try clear S9); (try k_sweep); (try dsimp only); (try k_fold))))
theorem c_months (y : Int) (t : Tok) : G02 w mean mg mb 2 56 [.int y t] True (fun t => .int (if lp y then 13 else 12) t) := by
  unfold G02
  k_fill
  unfold Gives
  intro dp un gd cn cs a ccd cl outer A₀ base h₀ L m s Q E B F X T hk hroom hunits hret
  refine wpAny_call ?_
  k_dflt (refine' code_defG (news := []) ?k1 ?k2 ?k3 News.nil ?k5 ?kA ?kF ?kK ?k6 ?k7 ?k8 ?k9 ?kB ?_ ?c2 ?c3 ?c4 ?c5; (case kA => exact rfl); (case kF => exact rfl); (case kK => assumption); (case k1 => k_asm); (case k2 => k_asm); (case k3 => k_asm); (case k5 => k_asm); (case k6 => k_is); (case k7 => k_is); (case k8 => ktr_room); (case k9 => exact BindsTo.of_eq rfl); (case c5 => decide); (case kB => exact locs rfl); (case c2 => exact rfl); (case c3 => exact rfl); (case c4 => exact rfl); k_whole; intro g' L' h' FG' F' N' B' X' T' GG; (try dsimp only); (try k_lift B'); (try k_fold))
  k_steps
  all_goals (refine g_end (Q := Q) hret _ (congrArg (fun z => Value.int z _) ?_) GG (by with_reducible assumption) trivial)
  all_goals simp_all

local macro_rules | `(tactic| walk_at "call ref") => `(tactic| (k_here; (with_reducible show wpAny _ _ (PySem.call (Value.ref 63) _ _) _ _ _); k_dflt (refine' Gives.use (c_d1 _ _ ?kp) ?k1 ?k2 ?k3 ?k4 ?k5 ?kK ?kd ?ku ?_; (case kp => constructor <;> omega); (case k1 => k_asm); (case k2 => k_asm); (case k3 => k_asm); (case k4 => k_asm); (case k5 => k_asm); (case kK => first | exact rfl | assumption); (case kd => ktr_room); (case ku => ktr_units); k_whole; intro t9 h9 tk9 F9 N9 S9 P9; (try (have cE9 := InElt.then (by with_reducible assumption) S9)); (try clear S9); (try k_sweep); (try dsimp only); (try k_fold))))
theorem c_d2 (y : Int) (t : Tok) (hy : -5 ≤ y ∧ y ≤ 100000005) : G02 w mean mg mb 2 70 [.int y t] (0 ≤ d2 y ∧ d2 y ≤ 2) (fun t => .int (d2 y) t) := by
  unfold G02
  k_fill
  unfold Gives
  intro dp un gd cn cs a ccd cl outer A₀ base h₀ L m s Q E B F X T hk hroom hunits hret
  refine wpAny_call ?_
  k_dflt (refine' code_defG (news := []) ?k1 ?k2 ?k3 News.nil ?k5 ?kA ?kF ?kK ?k6 ?k7 ?k8 ?k9 ?kB ?_ ?c2 ?c3 ?c4 ?c5; (case kA => exact rfl); (case kF => exact rfl); (case kK => assumption); (case k1 => k_asm); (case k2 => k_asm); (case k3 => k_asm); (case k5 => k_asm); (case k6 => k_is); (case k7 => k_is); (case k8 => ktr_room); (case k9 => exact BindsTo.of_eq rfl); (case c5 => decide); (case kB => exact locs rfl); (case c2 => exact rfl); (case c3 => exact rfl); (case c4 => exact rfl); k_whole; intro g' L' h' FG' F' N' B' X' T' GG; (try dsimp only); (try k_lift B'); (try k_fold))
  k_steps
  all_goals (refine g_end (Q := Q) hret _ (congrArg (fun z => Value.int z _) ?_) GG (by with_reducible assumption) ?_)
  all_goals (unfold d2; (repeat' split) <;> simp_all <;> omega)

local macro_rules | `(tactic| walk_at "call ref") => `(tactic| (k_here; (with_reducible show wpAny _ _ (PySem.call (Value.ref 70) _ _) _ _ _); k_dflt (refine' Gives.use (c_d2 _ _ ?kp) ?k1 ?k2 ?k3 ?k4 ?k5 ?kK ?kd ?ku ?_; (case kp => constructor <;> omega); (case k1 => k_asm); (case k2 => k_asm); (case k3 => k_asm); (case k4 => k_asm); (case k5 => k_asm); (case kK => first | exact rfl | assumption); (case kd => ktr_room); (case ku => ktr_units); k_whole; intro t9 h9 tk9 F9 N9 S9 P9; (try (have cE9 := InElt.then (by with_reducible assumption) S9)); (try clear S9); (try k_sweep); (try dsimp only); (try k_fold))))
local macro_rules | `(tactic| walk_at "call ref") => `(tactic| (k_here; (with_reducible show wpAny _ _ (PySem.call (Value.ref 56) _ _) _ _ _); k_dflt (refine' Gives.use (c_months _ _) ?k1 ?k2 ?k3 ?k4 ?k5 ?kK ?kd ?ku ?_; (case k1 => k_asm); (case k2 => k_asm); (case k3 => k_asm); (case k4 => k_asm); (case k5 => k_asm); (case kK => first | exact rfl | assumption); (case kd => ktr_room); (case ku => ktr_units); k_whole; intro t9 h9 tk9 F9 N9 S9 P9; (try (have cE9 := InElt.then (by with_reducible assumption) S9)); (try clear S9); (try k_sweep); (try dsimp only); (try k_fold))))

theorem c_jd7 (y d : Int) (t t2 t3 : Tok) (hy : 0 ≤ y ∧ y ≤ 100000003) (hd : 1 ≤ d ∧ d ≤ 400) : G02 w mean mg mb 3 98 [.int y t, .int 7 t2, .int d t3] (300000 ≤ ny y ∧ ny y ≤ 36700000000) (fun t => .float (hf (2 * (ny y + d) + 1)) t) := by
  unfold G02
  k_fill
  unfold Gives
  intro dp un gd cn cs a ccd cl outer A₀ base h₀ L m s Q E B F X T hk hroom hunits hret
  refine wpAny_call ?_
  k_dflt (refine' code_defG (news := []) ?k1 ?k2 ?k3 News.nil ?k5 ?kA ?kF ?kK ?k6 ?k7 ?k8 ?k9 ?kB ?_ ?c2 ?c3 ?c4 ?c5; (case kA => exact rfl); (case kF => exact rfl); (case kK => assumption); (case k1 => k_asm); (case k2 => k_asm); (case k3 => k_asm); (case k5 => k_asm); (case k6 => k_is); (case k7 => k_is); (case k8 => ktr_room); (case k9 => exact BindsTo.of_eq rfl); (case c5 => decide); (case kB => exact locs rfl); (case c2 => exact rfl); (case c3 => exact rfl); (case c4 => exact rfl); k_whole; intro g' L' h' FG' F' N' B' X' T' GG; (try dsimp only); (try k_lift B'); (try k_fold))
  k_steps
  all_goals (refine g_end (Q := Q) hret _ (congrArg (fun z => Value.float (hf z) _) ?_) GG (by with_reducible assumption) ?_)
  all_goals (unfold ny; omega)
end
end Mine
namespace Mine
open PySem PySem.Float64 PySem.W PyProof.Rows PySem.Calls
local macro_rules | `(tactic| k_room) => `(tactic| ktr_room)
local macro_rules | `(tactic| walk_at "binaryOp Mod int int") => `(tactic| (k_here; k_dflt (refine' r_mod_ii ?k1 ?_; (case k1 => decide); k_whole); (try dsimp only)))
local macro_rules | `(tactic| walk_at "binaryOp Div int int") => `(tactic| (k_here; k_dflt (refine' r_div_ii ?k1 ?k2 ?k3 ?_; (case k1 => constructor <;> omega); (case k2 => constructor <;> omega); (case k3 => omega); k_whole); (try dsimp only)))
local macro_rules | `(tactic| walk_at "call builtin:math.floor") => `(tactic| (k_here; k_dflt (refine' r_floor_ii ?k0 ?k1 ?k2 ?k3 ?_; (case k0 => rfl); (case k1 => constructor <;> omega); (case k2 => constructor <;> omega); (case k3 => omega); k_whole; (try dsimp only))))
local macro_rules | `(tactic| walk_at "binaryOp Add float int") => `(tactic| (k_here; k_dflt (refine' r_add_fi ?k0 ?k1 ?k2 ?_; (case k0 => first | with_reducible exact rfl | exact lit_epoch); (case k1 => constructor <;> omega); (case k2 => constructor <;> omega); k_whole); (try dsimp only)))
local macro_rules | `(tactic| walk_at "inplaceOp Add float int") => `(tactic| (k_here; k_dflt (refine' r_iadd_fi ?k0 ?k1 ?k2 ?_; (case k0 => with_reducible exact rfl); (case k1 => constructor <;> omega); (case k2 => constructor <;> omega); k_whole); (try dsimp only)))
local macro_rules | `(tactic| walk_at "binaryOp Add int float") => `(tactic| (k_here; k_dflt (refine' r_add_if ?k0 ?k1 ?k2 ?_; (case k0 => first | with_reducible exact rfl | exact lit_half); (case k1 => constructor <;> omega); (case k2 => constructor <;> omega); k_whole); (try dsimp only)))
local macro_rules | `(tactic| walk_at "binaryOp Sub float float") => `(tactic| (k_here; k_dflt (refine' r_sub_ff ?k0 ?k1 ?k2 ?k3 ?k4 ?_; (case k0 => with_reducible exact rfl); (case k1 => with_reducible exact rfl); (case k2 => constructor <;> omega); (case k3 => constructor <;> omega); (case k4 => omega); k_whole); (try dsimp only)))
local macro_rules | `(tactic| walk_at "binaryOp Mult int float") => `(tactic| (k_here; k_dflt (refine' r_mul_if ?k0 ?k1 ?k2 ?k3 ?k4 ?k5 ?_; (case k0 => with_reducible exact rfl); (case k1 => constructor <;> omega); (case k2 => constructor <;> omega); (case k3 => constructor <;> omega); (case k4 => omega); (case k5 => omega); k_whole); (try dsimp only)))
local macro_rules | `(tactic| walk_at "binaryOp Mod float int") => `(tactic| (k_here; k_dflt (refine' r_mod_fi ?k0 ?k1 ?k2 ?k3 ?_; (case k0 => with_reducible exact rfl); (case k1 => constructor <;> omega); (case k2 => constructor <;> omega); (case k3 => decide); k_whole); (try dsimp only)))
local macro_rules | `(tactic| walk_at "compareOp Eq float int") => `(tactic| (k_here; k_dflt (refine' r_eq_fi ?k0 ?k1 ?_; (case k0 => with_reducible exact rfl); (case k1 => constructor <;> omega); k_whole); (try dsimp only)))
local macro_rules | `(tactic| walk_at "compareOp NotEq float int") => `(tactic| (k_here; k_dflt (refine' r_ne_fi ?k0 ?k1 ?_; (case k0 => with_reducible exact rfl); (case k1 => constructor <;> omega); k_whole); (try dsimp only)))
local macro_rules | `(tactic| walk_at "call type:int") => `(tactic| (k_here; k_dflt (refine' r_int ?k0 ?k1 ?k2 ?_; (case k0 => with_reducible exact rfl); (case k1 => constructor <;> omega); (case k2 => omega); k_whole); (try dsimp only)))
set_option hygiene false in
local macro_rules | `(tactic| walk_at "call builtin:divmod") => `(tactic| (k_here; k_dflt (refine' r_divmod ?k1 ?k2 ?k3 ?_ ?kz; (case k1 => k_asm); (case k2 => k_asm); (case k3 => decide); (case kz => exact Or.inl (PyProof.noPylong_small (by omega))); k_whole); intro dq dr h' hdq hdr F' N'; (try dsimp only)))
local macro_rules | `(tactic| walk_at "binaryOp FloorDiv int int") => `(tactic| (k_here; k_dflt (refine' r_fdiv_ii ?k0 ?k1 ?k2 ?_; (case k0 => rfl); (case k1 => decide); (case k2 => exact Or.inl (PyProof.noPylong_small (by omega))); k_whole); (try dsimp only)))
local macro_rules | `(tactic| walk_at "inplaceOp Add ref") => `(tactic| (k_here; (with_reducible show wpAny _ _ (inplaceOp Operator.Add (Value.ref _) (Value.ref _)) _ _ _); k_dflt (refine' iadd_in ?k1 ?k2 ?k3 ?k4 ?k5 ?k6 ?_; (case k1 => k_asm); (case k2 => k_asm); (case k3 => k_mem); (case k4 => k_mem); (case k5 => first | decide | size_fits); (case k6 => k_upd); k_whole); intro h' F' N'; (try k_sweep)))
section
variable {w : World} {mean : ExcName → Option Value} {mg mb : Str → Option Value}
local macro_rules | `(tactic| walk_at "call ref") => `(tactic| (k_here; (with_reducible show wpAny _ _ (PySem.call (Value.ref 49) _ _) _ _ _); k_dflt (refine' Gives.use (c_leap _ _) ?k1 ?k2 ?k3 ?k4 ?k5 ?kK ?kd ?ku ?_; (case k1 => k_asm); (case k2 => k_asm); (case k3 => k_asm); (case k4 => k_asm); (case k5 => k_asm); (case kK => first | exact rfl | assumption); (case kd => ktr_room); (case ku => ktr_units); k_whole; intro t9 h9 tk9 F9 N9 S9 P9; (try (have cE9 := InElt.then (by with_reducible assumption) S9)); (try clear S9); (try k_sweep); (try dsimp only); (try k_fold))))
local macro_rules | `(tactic| walk_at "call ref") => `(tactic| (k_here; (with_reducible show wpAny _ _ (PySem.call (Value.ref 98) _ _) _ _ _); k_dflt (refine' Gives.use (c_jd7 _ _ _ _ _ ?kp ?kq) ?k1 ?k2 ?k3 ?k4 ?k5 ?kK ?kd ?ku ?_; (case kp => constructor <;> omega); (case kq => decide); (case k1 => k_asm); (case k2 => k_asm); (case k3 => k_asm); (case k4 => k_asm); (case k5 => k_asm); (case kK => first | exact rfl | assumption); (case kd => ktr_room); (case ku => ktr_units); k_whole; intro t9 h9 tk9 F9 N9 S9 P9; (try (have cE9 := InElt.then (by with_reducible assumption) S9)); (try clear S9); (try k_sweep); (try dsimp only); (try k_fold))))
theorem c_ydays (y : Int) (t : Tok) (hy : 0 ≤ y ∧ y ≤ 100000002) : G02 w mean mg mb 4 77 [.int y t] (-40000000000 ≤ ylen y ∧ ylen y ≤ 40000000000) (fun t => .float (hf (2 * ylen y)) t) := by
  unfold G02
  k_fill
  unfold Gives
  intro dp un gd cn cs a ccd cl outer A₀ base h₀ L m s Q E B F X T hk hroom hunits hret
  refine wpAny_call ?_
  k_dflt (refine' code_defG (news := []) ?k1 ?k2 ?k3 News.nil ?k5 ?kA ?kF ?kK ?k6 ?k7 ?k8 ?k9 ?kB ?_ ?c2 ?c3 ?c4 ?c5; (case kA => exact rfl); (case kF => exact rfl); (case kK => assumption); (case k1 => k_asm); (case k2 => k_asm); (case k3 => k_asm); (case k5 => k_asm); (case k6 => k_is); (case k7 => k_is); (case k8 => ktr_room); (case k9 => exact BindsTo.of_eq rfl); (case c5 => decide); (case kB => exact locs rfl); (case c2 => exact rfl); (case c3 => exact rfl); (case c4 => exact rfl); k_whole; intro g' L' h' FG' F' N' B' X' T' GG; (try dsimp only); (try k_lift B'); (try k_fold))
  k_steps
  all_goals (refine g_end (Q := Q) hret _ (congrArg (fun z => Value.float (hf z) _) ?_) GG (by with_reducible assumption) ?_)
  all_goals (unfold ylen; omega)

local macro_rules | `(tactic| walk_at "call ref") => `(tactic| (k_here; (with_reducible show wpAny _ _ (PySem.call (Value.ref 77) _ _) _ _ _); k_dflt (refine' Gives.use (c_ydays _ _ ?kp) ?k1 ?k2 ?k3 ?k4 ?k5 ?kK ?kd ?ku ?_; (case kp => constructor <;> omega); (case k1 => k_asm); (case k2 => k_asm); (case k3 => k_asm); (case k4 => k_asm); (case k5 => k_asm); (case kK => first | exact rfl | assumption); (case kd => ktr_room); (case ku => ktr_units); k_whole; intro t9 h9 tk9 F9 N9 S9 P9; (try (have cE9 := InElt.then (by with_reducible assumption) S9)); (try clear S9); (try k_sweep); (try dsimp only); (try k_fold))))
theorem c_ml (y m : Int) (t t2 : Tok) (hy : 0 ≤ y ∧ y ≤ 100000002) (hm : 1 ≤ m ∧ m ≤ 13) : G02 w mean mg mb 5 84 [.int y t, .int m t2] (29 ≤ ml y m ∧ ml y m ≤ 30) (fun t => .int (ml y m) t) := by
  unfold G02
  k_fill
  unfold Gives
  intro dp un gd cn cs a ccd cl outer A₀ base h₀ L m s Q E B F X T hk hroom hunits hret
  refine wpAny_call ?_
  k_dflt (refine' code_defG (news := []) ?k1 ?k2 ?k3 News.nil ?k5 ?kA ?kF ?kK ?k6 ?k7 ?k8 ?k9 ?kB ?_ ?c2 ?c3 ?c4 ?c5; (case kA => exact rfl); (case kF => exact rfl); (case kK => assumption); (case k1 => k_asm); (case k2 => k_asm); (case k3 => k_asm); (case k5 => k_asm); (case k6 => k_is); (case k7 => k_is); (case k8 => ktr_room); (case k9 => exact BindsTo.of_eq rfl); (case c5 => decide); (case kB => exact locs rfl); (case c2 => exact rfl); (case c3 => exact rfl); (case c4 => exact rfl); k_whole; intro g' L' h' FG' F' N' B' X' T' GG; (try dsimp only); (try k_lift B'); (try k_fold))
  k_steps
  all_goals (refine g_end (Q := Q) hret _ (congrArg (fun z => Value.int z _) ?_) GG (by with_reducible assumption) ?_)
  all_goals (unfold ml; (repeat' split) <;> simp_all <;> omega)

local macro_rules | `(tactic| walk_at "call ref") => `(tactic| (k_here; (with_reducible show wpAny _ _ (PySem.call (Value.ref 84) _ _) _ _ _); k_dflt (refine' Gives.use (c_ml _ _ _ _ ?kp ?kq) ?k1 ?k2 ?k3 ?k4 ?k5 ?kK ?kd ?ku ?_; (case kp => constructor <;> omega); (case kq => constructor <;> omega); (case k1 => k_asm); (case k2 => k_asm); (case k3 => k_asm); (case k4 => k_asm); (case k5 => k_asm); (case kK => first | exact rfl | assumption); (case kd => ktr_room); (case ku => ktr_units); k_whole; intro t9 h9 tk9 F9 N9 S9 P9; (try (have cE9 := InElt.then (by with_reducible assumption) S9)); (try clear S9); (try k_sweep); (try dsimp only); (try k_fold))))
theorem c_md (y m : Int) (t t2 : Tok) (hy : 0 ≤ y ∧ y ≤ 100000002) (hm : 1 ≤ m ∧ m ≤ 13) : G02 w mean mg mb 6 91 [.int y t, .int m t2] (29 ≤ ml y m ∧ ml y m ≤ 30) (fun t => .int (ml y m) t) := by
  unfold G02
  k_fill
  unfold Gives
  intro dp un gd cn cs a ccd cl outer A₀ base h₀ L m s Q E B F X T hk hroom hunits hret
  refine wpAny_call ?_
  k_dflt (refine' code_defG (news := []) ?k1 ?k2 ?k3 News.nil ?k5 ?kA ?kF ?kK ?k6 ?k7 ?k8 ?k9 ?kB ?_ ?c2 ?c3 ?c4 ?c5; (case kA => exact rfl); (case kF => exact rfl); (case kK => assumption); (case k1 => k_asm); (case k2 => k_asm); (case k3 => k_asm); (case k5 => k_asm); (case k6 => k_is); (case k7 => k_is); (case k8 => ktr_room); (case k9 => exact BindsTo.of_eq rfl); (case c5 => decide); (case kB => exact locs rfl); (case c2 => exact rfl); (case c3 => exact rfl); (case c4 => exact rfl); k_whole; intro g' L' h' FG' F' N' B' X' T' GG; (try dsimp only); (try k_lift B'); (try k_fold))
  k_steps
  all_goals (refine g_end (Q := Q) hret _ rfl GG (by with_reducible assumption) (by constructor <;> omega))

theorem c_long (y : Int) (t : Tok) : G02 w mean mg mb 1 119 [.int y t] True (fun _ => .bool (lng y)) := by
  unfold G02
  k_fill
  unfold Gives
  intro dp un gd cn cs a ccd cl outer A₀ base h₀ L m s Q E B F X T hk hroom hunits hret
  refine wpAny_call ?_
  k_dflt (refine' code_defG (news := []) ?k1 ?k2 ?k3 News.nil ?k5 ?kA ?kF ?kK ?k6 ?k7 ?k8 ?k9 ?kB ?_ ?c2 ?c3 ?c4 ?c5; (case kA => exact rfl); (case kF => exact rfl); (case kK => assumption); (case k1 => k_asm); (case k2 => k_asm); (case k3 => k_asm); (case k5 => k_asm); (case k6 => k_is); (case k7 => k_is); (case k8 => ktr_room); (case k9 => exact BindsTo.of_eq rfl); (case c5 => decide); (case kB => exact locs rfl); (case c2 => exact rfl); (case c3 => exact rfl); (case c4 => exact rfl); k_whole; intro g' L' h' FG' F' N' B' X' T' GG; (try dsimp only); (try k_lift B'); (try k_fold))
  k_steps
  all_goals (refine g_end (Q := Q) hret 0 (congrArg Value.bool ?_) GG (by with_reducible assumption) trivial)
  all_goals (unfold lng; rw [Bool.eq_iff_iff]; simp only [List.any_cons, List.any_nil, Bool.or_false, Bool.or_eq_true, beq_iff_eq, decide_eq_true_eq]; omega)
theorem c_day (z : Int) (t : Tok) (hz : 0 ≤ z ∧ z ≤ 100000000000) : G02 w mean mg mb 1 112 [.float (hf (2 * z + 1)) t] True (fun t => .int (z + 1) t) := by
  unfold G02
  k_fill
  unfold Gives
  intro dp un gd cn cs a ccd cl outer A₀ base h₀ L m s Q E B F X T hk hroom hunits hret
  refine wpAny_call ?_
  k_dflt (refine' code_defG (news := []) ?k1 ?k2 ?k3 News.nil ?k5 ?kA ?kF ?kK ?k6 ?k7 ?k8 ?k9 ?kB ?_ ?c2 ?c3 ?c4 ?c5; (case kA => exact rfl); (case kF => exact rfl); (case kK => assumption); (case k1 => k_asm); (case k2 => k_asm); (case k3 => k_asm); (case k5 => k_asm); (case k6 => k_is); (case k7 => k_is); (case k8 => ktr_room); (case k9 => exact BindsTo.of_eq rfl); (case c5 => decide); (case kB => exact locs rfl); (case c2 => exact rfl); (case c3 => exact rfl); (case c4 => exact rfl); k_whole; intro g' L' h' FG' F' N' B' X' T' GG; (try dsimp only); (try k_lift B'); (try k_fold))
  k_steps
  all_goals (refine g_end (Q := Q) hret _ (congrArg (fun z => Value.int z _) ?_) GG (by with_reducible assumption) trivial)
  all_goals omega
end
end Mine
namespace Mine
open PySem PySem.Float64 PySem.W PyProof.Rows PySem.Calls
local macro_rules | `(tactic| k_room) => `(tactic| ktr_room)
local macro_rules | `(tactic| walk_at "binaryOp Mod int int") => `(tactic| (k_here; k_dflt (refine' r_mod_ii ?k1 ?_; (case k1 => decide); k_whole); (try dsimp only)))
local macro_rules | `(tactic| walk_at "binaryOp Div int int") => `(tactic| (k_here; k_dflt (refine' r_div_ii ?k1 ?k2 ?k3 ?_; (case k1 => constructor <;> omega); (case k2 => constructor <;> omega); (case k3 => omega); k_whole); (try dsimp only)))
local macro_rules | `(tactic| walk_at "call builtin:math.floor") => `(tactic| (k_here; k_dflt (refine' r_floor_ii ?k0 ?k1 ?k2 ?k3 ?_; (case k0 => rfl); (case k1 => constructor <;> omega); (case k2 => constructor <;> omega); (case k3 => omega); k_whole; (try dsimp only))))
local macro_rules | `(tactic| walk_at "binaryOp Add float int") => `(tactic| (k_here; k_dflt (refine' r_add_fi ?k0 ?k1 ?k2 ?_; (case k0 => first | with_reducible exact rfl | exact lit_epoch); (case k1 => constructor <;> omega); (case k2 => constructor <;> omega); k_whole); (try dsimp only)))
local macro_rules | `(tactic| walk_at "inplaceOp Add float int") => `(tactic| (k_here; k_dflt (refine' r_iadd_fi ?k0 ?k1 ?k2 ?_; (case k0 => with_reducible exact rfl); (case k1 => constructor <;> omega); (case k2 => constructor <;> omega); k_whole); (try dsimp only)))
local macro_rules | `(tactic| walk_at "binaryOp Add int float") => `(tactic| (k_here; k_dflt (refine' r_add_if ?k0 ?k1 ?k2 ?_; (case k0 => first | with_reducible exact rfl | exact lit_half); (case k1 => constructor <;> omega); (case k2 => constructor <;> omega); k_whole); (try dsimp only)))
local macro_rules | `(tactic| walk_at "binaryOp Sub float float") => `(tactic| (k_here; k_dflt (refine' r_sub_ff ?k0 ?k1 ?k2 ?k3 ?k4 ?_; (case k0 => with_reducible exact rfl); (case k1 => with_reducible exact rfl); (case k2 => constructor <;> omega); (case k3 => constructor <;> omega); (case k4 => omega); k_whole); (try dsimp only)))
local macro_rules | `(tactic| walk_at "binaryOp Mult int float") => `(tactic| (k_here; k_dflt (refine' r_mul_if ?k0 ?k1 ?k2 ?k3 ?k4 ?k5 ?_; (case k0 => with_reducible exact rfl); (case k1 => constructor <;> omega); (case k2 => constructor <;> omega); (case k3 => constructor <;> omega); (case k4 => omega); (case k5 => omega); k_whole); (try dsimp only)))
local macro_rules | `(tactic| walk_at "binaryOp Mod float int") => `(tactic| (k_here; k_dflt (refine' r_mod_fi ?k0 ?k1 ?k2 ?k3 ?_; (case k0 => with_reducible exact rfl); (case k1 => constructor <;> omega); (case k2 => constructor <;> omega); (case k3 => decide); k_whole); (try dsimp only)))
local macro_rules | `(tactic| walk_at "compareOp Eq float int") => `(tactic| (k_here; k_dflt (refine' r_eq_fi ?k0 ?k1 ?_; (case k0 => with_reducible exact rfl); (case k1 => constructor <;> omega); k_whole); (try dsimp only)))
local macro_rules | `(tactic| walk_at "compareOp NotEq float int") => `(tactic| (k_here; k_dflt (refine' r_ne_fi ?k0 ?k1 ?_; (case k0 => with_reducible exact rfl); (case k1 => constructor <;> omega); k_whole); (try dsimp only)))
local macro_rules | `(tactic| walk_at "call type:int") => `(tactic| (k_here; k_dflt (refine' r_int ?k0 ?k1 ?k2 ?_; (case k0 => with_reducible exact rfl); (case k1 => constructor <;> omega); (case k2 => omega); k_whole); (try dsimp only)))
set_option hygiene false in
local macro_rules | `(tactic| walk_at "call builtin:divmod") => `(tactic| (k_here; k_dflt (refine' r_divmod ?k1 ?k2 ?k3 ?_ ?kz; (case k1 => k_asm); (case k2 => k_asm); (case k3 => decide); (case kz => exact Or.inl (PyProof.noPylong_small (by omega))); k_whole); intro dq dr h' hdq hdr F' N'; (try dsimp only)))
local macro_rules | `(tactic| walk_at "binaryOp FloorDiv int int") => `(tactic| (k_here; k_dflt (refine' r_fdiv_ii ?k0 ?k1 ?k2 ?_; (case k0 => rfl); (case k1 => decide); (case k2 => exact Or.inl (PyProof.noPylong_small (by omega))); k_whole); (try dsimp only)))
local macro_rules | `(tactic| walk_at "inplaceOp Add ref") => `(tactic| (k_here; (with_reducible show wpAny _ _ (inplaceOp Operator.Add (Value.ref _) (Value.ref _)) _ _ _); k_dflt (refine' iadd_in ?k1 ?k2 ?k3 ?k4 ?k5 ?k6 ?_; (case k1 => k_asm); (case k2 => k_asm); (case k3 => k_mem); (case k4 => k_mem); (case k5 => first | decide | size_fits); (case k6 => k_upd); k_whole); intro h' F' N'; (try k_sweep)))
section
variable {w : World} {mean : ExcName → Option Value} {mg mb : Str → Option Value}
local macro_rules | `(tactic| walk_at "call ref") => `(tactic| (k_here; (with_reducible show wpAny _ _ (PySem.call (Value.ref 119) _ _) _ _ _); k_dflt (refine' Gives.use (c_long _ _) ?k1 ?k2 ?k3 ?k4 ?k5 ?kK ?kd ?ku ?_; (case k1 => k_asm); (case k2 => k_asm); (case k3 => k_asm); (case k4 => k_asm); (case k5 => k_asm); (case kK => first | exact rfl | assumption); (case kd => ktr_room); (case ku => ktr_units); k_whole; intro t9 h9 tk9 F9 N9 S9 P9; (try (have cE9 := InElt.then (by with_reducible assumption) S9)); (try clear S9); (try k_sweep); (try dsimp only); (try k_fold))))
theorem c_lny (y : Int) (t : Tok) (hy : 1 ≤ y ∧ y ≤ 100000003) : G02 w mean mg mb 2 124 [.int y t] True (fun t => .int (lny y) t) := by
  unfold G02
  k_fill
  unfold Gives
  intro dp un gd cn cs a ccd cl outer A₀ base h₀ L m s Q E B F X T hk hroom hunits hret
  refine wpAny_call ?_
  k_dflt (refine' code_defG (news := []) ?k1 ?k2 ?k3 News.nil ?k5 ?kA ?kF ?kK ?k6 ?k7 ?k8 ?k9 ?kB ?_ ?c2 ?c3 ?c4 ?c5; (case kA => exact rfl); (case kF => exact rfl); (case kK => assumption); (case k1 => k_asm); (case k2 => k_asm); (case k3 => k_asm); (case k5 => k_asm); (case k6 => k_is); (case k7 => k_is); (case k8 => ktr_room); (case k9 => exact BindsTo.of_eq rfl); (case c5 => decide); (case kB => exact locs rfl); (case c2 => exact rfl); (case c3 => exact rfl); (case c4 => exact rfl); k_whole; intro g' L' h' FG' F' N' B' X' T' GG; (try dsimp only); (try k_lift B'); (try k_fold))
  k_steps
  all_goals (refine g_end (Q := Q) hret _ (congrArg (fun z => Value.int z _) ?_) GG (by with_reducible assumption) trivial)
  all_goals (first
    | exact eAt hdq hdr (mo_is (by with_reducible assumption) (by with_reducible assumption)) (by with_reducible assumption) (by with_reducible assumption)
    | exact eAf hdq hdr (mo_is (by with_reducible assumption) (by with_reducible assumption)) (by with_reducible assumption) (by with_reducible assumption)
    | exact eBt hdq hdr (mo_is (by with_reducible assumption) (by with_reducible assumption)) (by with_reducible assumption) (by with_reducible assumption) (by with_reducible assumption) (by with_reducible assumption) (by with_reducible assumption)
    | exact eBf hdq hdr (mo_is (by with_reducible assumption) (by with_reducible assumption)) (by with_reducible assumption) (by with_reducible assumption) (by with_reducible assumption) (by with_reducible assumption) (by with_reducible assumption)
    | exact no21 (d := dq) (by with_reducible assumption) (by with_reducible assumption)
    | exact eBn hdq hdr (mo_is (by with_reducible assumption) (by with_reducible assumption)) (by with_reducible assumption) (by with_reducible assumption) (by with_reducible assumption) (by with_reducible assumption)
    | exact eCn hdq hdr (mo_is (by with_reducible assumption) (by with_reducible assumption)) (by with_reducible assumption) (by first | exact .inl (by with_reducible assumption) | exact .inr (.inl (by with_reducible assumption)) | exact .inr (.inr (by with_reducible assumption))) (by with_reducible assumption) (by with_reducible assumption) (by with_reducible assumption)
    | exact eCt hdq hdr (mo_is (by with_reducible assumption) (by with_reducible assumption)) (by with_reducible assumption) (by first | exact .inl (by with_reducible assumption) | exact .inr (.inl (by with_reducible assumption)) | exact .inr (.inr (by with_reducible assumption))) (by with_reducible assumption) (by with_reducible assumption) (by with_reducible assumption) (by with_reducible assumption)
    | exact eCf hdq hdr (mo_is (by with_reducible assumption) (by with_reducible assumption)) (by with_reducible assumption) (by first | exact .inl (by with_reducible assumption) | exact .inr (.inl (by with_reducible assumption)) | exact .inr (.inr (by with_reducible assumption))) (by with_reducible assumption) (by with_reducible assumption) (by with_reducible assumption) (by with_reducible assumption)
    | exact eDt hdq hdr (mo_is (by with_reducible assumption) (by with_reducible assumption)) (by with_reducible assumption) (by first | exact .inl (by with_reducible assumption) | exact .inr (.inl (by with_reducible assumption)) | exact .inr (.inr (by with_reducible assumption))) (by first | exact .inl (by with_reducible assumption) | exact .inr (.inl (by with_reducible assumption)) | exact .inr (.inr (by with_reducible assumption))) (by with_reducible assumption)
    | exact eDf hdq hdr (mo_is (by with_reducible assumption) (by with_reducible assumption)) (by with_reducible assumption) (by first | exact .inl (by with_reducible assumption) | exact .inr (.inl (by with_reducible assumption)) | exact .inr (.inr (by with_reducible assumption))) (by first | exact .inl (by with_reducible assumption) | exact .inr (.inl (by with_reducible assumption)) | exact .inr (.inr (by with_reducible assumption))) (by with_reducible assumption))
end
end Mine
namespace Mine
open PySem PySem.Float64 PySem.W PyProof.Rows PySem.Calls
local macro_rules | `(tactic| k_room) => `(tactic| ktr_room)
local macro_rules | `(tactic| walk_at "binaryOp Mod int int") => `(tactic| (k_here; k_dflt (refine' r_mod_ii ?k1 ?_; (case k1 => decide); k_whole); (try dsimp only)))
local macro_rules | `(tactic| walk_at "binaryOp Div int int") => `(tactic| (k_here; k_dflt (refine' r_div_ii ?k1 ?k2 ?k3 ?_; (case k1 => constructor <;> omega); (case k2 => constructor <;> omega); (case k3 => omega); k_whole); (try dsimp only)))
local macro_rules | `(tactic| walk_at "call builtin:math.floor") => `(tactic| (k_here; k_dflt (refine' r_floor_ii ?k0 ?k1 ?k2 ?k3 ?_; (case k0 => rfl); (case k1 => constructor <;> omega); (case k2 => constructor <;> omega); (case k3 => omega); k_whole; (try dsimp only))))
local macro_rules | `(tactic| walk_at "binaryOp Add float int") => `(tactic| (k_here; k_dflt (refine' r_add_fi ?k0 ?k1 ?k2 ?_; (case k0 => first | with_reducible exact rfl | exact lit_epoch); (case k1 => constructor <;> omega); (case k2 => constructor <;> omega); k_whole); (try dsimp only)))
local macro_rules | `(tactic| walk_at "inplaceOp Add float int") => `(tactic| (k_here; k_dflt (refine' r_iadd_fi ?k0 ?k1 ?k2 ?_; (case k0 => with_reducible exact rfl); (case k1 => constructor <;> omega); (case k2 => constructor <;> omega); k_whole); (try dsimp only)))
local macro_rules | `(tactic| walk_at "binaryOp Add int float") => `(tactic| (k_here; k_dflt (refine' r_add_if ?k0 ?k1 ?k2 ?_; (case k0 => first | with_reducible exact rfl | exact lit_half); (case k1 => constructor <;> omega); (case k2 => constructor <;> omega); k_whole); (try dsimp only)))
local macro_rules | `(tactic| walk_at "binaryOp Sub float float") => `(tactic| (k_here; k_dflt (refine' r_sub_ff ?k0 ?k1 ?k2 ?k3 ?k4 ?_; (case k0 => with_reducible exact rfl); (case k1 => with_reducible exact rfl); (case k2 => constructor <;> omega); (case k3 => constructor <;> omega); (case k4 => omega); k_whole); (try dsimp only)))
local macro_rules | `(tactic| walk_at "binaryOp Mult int float") => `(tactic| (k_here; k_dflt (refine' r_mul_if ?k0 ?k1 ?k2 ?k3 ?k4 ?k5 ?_; (case k0 => with_reducible exact rfl); (case k1 => constructor <;> omega); (case k2 => constructor <;> omega); (case k3 => constructor <;> omega); (case k4 => omega); (case k5 => omega); k_whole); (try dsimp only)))
local macro_rules | `(tactic| walk_at "binaryOp Mod float int") => `(tactic| (k_here; k_dflt (refine' r_mod_fi ?k0 ?k1 ?k2 ?k3 ?_; (case k0 => with_reducible exact rfl); (case k1 => constructor <;> omega); (case k2 => constructor <;> omega); (case k3 => decide); k_whole); (try dsimp only)))
local macro_rules | `(tactic| walk_at "compareOp Eq float int") => `(tactic| (k_here; k_dflt (refine' r_eq_fi ?k0 ?k1 ?_; (case k0 => with_reducible exact rfl); (case k1 => constructor <;> omega); k_whole); (try dsimp only)))
local macro_rules | `(tactic| walk_at "compareOp NotEq float int") => `(tactic| (k_here; k_dflt (refine' r_ne_fi ?k0 ?k1 ?_; (case k0 => with_reducible exact rfl); (case k1 => constructor <;> omega); k_whole); (try dsimp only)))
local macro_rules | `(tactic| walk_at "call type:int") => `(tactic| (k_here; k_dflt (refine' r_int ?k0 ?k1 ?k2 ?_; (case k0 => with_reducible exact rfl); (case k1 => constructor <;> omega); (case k2 => omega); k_whole); (try dsimp only)))
set_option hygiene false in
local macro_rules | `(tactic| walk_at "call builtin:divmod") => `(tactic| (k_here; k_dflt (refine' r_divmod ?k1 ?k2 ?k3 ?_ ?kz; (case k1 => k_asm); (case k2 => k_asm); (case k3 => decide); (case kz => exact Or.inl (PyProof.noPylong_small (by omega))); k_whole); intro dq dr h' hdq hdr F' N'; (try dsimp only)))
local macro_rules | `(tactic| walk_at "binaryOp FloorDiv int int") => `(tactic| (k_here; k_dflt (refine' r_fdiv_ii ?k0 ?k1 ?k2 ?_; (case k0 => rfl); (case k1 => decide); (case k2 => exact Or.inl (PyProof.noPylong_small (by omega))); k_whole); (try dsimp only)))
local macro_rules | `(tactic| walk_at "inplaceOp Add ref") => `(tactic| (k_here; (with_reducible show wpAny _ _ (inplaceOp Operator.Add (Value.ref _) (Value.ref _)) _ _ _); k_dflt (refine' iadd_in ?k1 ?k2 ?k3 ?k4 ?k5 ?k6 ?_; (case k1 => k_asm); (case k2 => k_asm); (case k3 => k_mem); (case k4 => k_mem); (case k5 => first | decide | size_fits); (case k6 => k_upd); k_whole); intro h' F' N'; (try k_sweep)))
section
variable {w : World} {mean : ExcName → Option Value} {mg mb : Str → Option Value}
local macro_rules | `(tactic| walk_at "call ref") => `(tactic| (k_here; (with_reducible show wpAny _ _ (PySem.call (Value.ref 63) _ _) _ _ _); k_dflt (refine' Gives.use (c_d1 _ _ ?kp) ?k1 ?k2 ?k3 ?k4 ?k5 ?kK ?kd ?ku ?_; (case kp => constructor <;> omega); (case k1 => k_asm); (case k2 => k_asm); (case k3 => k_asm); (case k4 => k_asm); (case k5 => k_asm); (case kK => first | exact rfl | assumption); (case kd => ktr_room); (case ku => ktr_units); k_whole; intro t9 h9 tk9 F9 N9 S9 P9; (try (have cE9 := InElt.then (by with_reducible assumption) S9)); (try clear S9); (try k_sweep); (try dsimp only); (try k_fold))))
local macro_rules | `(tactic| walk_at "call ref") => `(tactic| (k_here; (with_reducible show wpAny _ _ (PySem.call (Value.ref 70) _ _) _ _ _); k_dflt (refine' Gives.use (c_d2 _ _ ?kp) ?k1 ?k2 ?k3 ?k4 ?k5 ?kK ?kd ?ku ?_; (case kp => constructor <;> omega); (case k1 => k_asm); (case k2 => k_asm); (case k3 => k_asm); (case k4 => k_asm); (case k5 => k_asm); (case kK => first | exact rfl | assumption); (case kd => ktr_room); (case ku => ktr_units); k_whole; intro t9 h9 tk9 F9 N9 S9 P9; (try (have cE9 := InElt.then (by with_reducible assumption) S9)); (try clear S9); (try k_sweep); (try dsimp only); (try k_fold))))
local macro_rules | `(tactic| walk_at "call ref") => `(tactic| (k_here; (with_reducible show wpAny _ _ (PySem.call (Value.ref 56) _ _) _ _ _); k_dflt (refine' Gives.use (c_months _ _) ?k1 ?k2 ?k3 ?k4 ?k5 ?kK ?kd ?ku ?_; (case k1 => k_asm); (case k2 => k_asm); (case k3 => k_asm); (case k4 => k_asm); (case k5 => k_asm); (case kK => first | exact rfl | assumption); (case kd => ktr_room); (case ku => ktr_units); k_whole; intro t9 h9 tk9 F9 N9 S9 P9; (try (have cE9 := InElt.then (by with_reducible assumption) S9)); (try clear S9); (try k_sweep); (try dsimp only); (try k_fold))))
local macro_rules | `(tactic| walk_at "call ref") => `(tactic| (k_here; (with_reducible show wpAny _ _ (PySem.call (Value.ref 91) _ _) _ _ _); k_dflt (refine' Gives.use (c_md _ _ _ _ ?kp ?kq) ?k1 ?k2 ?k3 ?k4 ?k5 ?kK ?kd ?ku ?_; (case kp => constructor <;> omega); (case kq => constructor <;> omega); (case k1 => k_asm); (case k2 => k_asm); (case k3 => k_asm); (case k4 => k_asm); (case k5 => k_asm); (case kK => first | exact rfl | assumption); (case kd => ktr_room); (case ku => ktr_units); k_whole; intro t9 h9 tk9 F9 N9 S9 P9; (try (have cE9 := InElt.then (by with_reducible assumption) S9)); (try clear S9); (try k_sweep); (try dsimp only); (try k_fold))))
set_option hygiene false in
local macro_rules | `(tactic| walk_at "pyIter ref") => `(tactic| (k_here; (with_reducible show wpAny _ _ (pyIter (Value.ref _)) (fun it s₂ => LoopAtV _ _ _ _ _ _ _ _ _ it s₂) _ _); k_dflt (refine' jd_range (nm := Str.ofString "jd") (ml y) ?hh ?hr ?hsm ?hF ?hN ?hk ?hy ?hx ?hn ?hg ?_ ?_; (case hh => rfl); (case hr => assumption); (case hsm => exact small_one (by omega) (by omega) (by omega) (by omega)); (case hF => k_asm); (case hN => k_asm); (case hk => exact rfl); (case hy => with_reducible exact rfl); (case hx => decide); (case hn => omega); (case hg => exact ml_bnd y)); all_goals (intro; intros; (try dsimp only); (try k_fold))))
theorem c_jd (y m d : Int) (t t2 t3 : Tok) (hy : 0 ≤ y ∧ y ≤ 100000002) (hm : 1 ≤ m ∧ m ≤ 13) (hd : 1 ≤ d ∧ d ≤ 400) : G02 w mean mg mb 7 98 [.int y t, .int m t2, .int d t3] (0 ≤ off y m ∧ off y m ≤ 800 ∧ 300000 ≤ ny y ∧ ny y ≤ 36700000000) (fun t => .float (hf (2 * (ny y + off y m + d) + 1)) t) := by
  have hlb : 12 ≤ (if lp y then (13 : Int) else 12) ∧ (if lp y then (13 : Int) else 12) ≤ 13 := by split <;> omega
  unfold G02
  k_fill
  unfold Gives
  intro dp un gd cn cs a ccd cl outer A₀ base h₀ L m s Q E B F X T hk hroom hunits hret
  refine wpAny_call ?_
  k_dflt (refine' code_defG (news := []) ?k1 ?k2 ?k3 News.nil ?k5 ?kA ?kF ?kK ?k6 ?k7 ?k8 ?k9 ?kB ?_ ?c2 ?c3 ?c4 ?c5; (case kA => exact rfl); (case kF => exact rfl); (case kK => assumption); (case k1 => k_asm); (case k2 => k_asm); (case k3 => k_asm); (case k5 => k_asm); (case k6 => k_is); (case k7 => k_is); (case k8 => ktr_room); (case k9 => exact BindsTo.of_eq rfl); (case c5 => decide); (case kB => exact locs rfl); (case c2 => exact rfl); (case c3 => exact rfl); (case c4 => exact rfl); k_whole; intro g' L' h' FG' F' N' B' X' T' GG; (try dsimp only); (try k_lift B'); (try k_fold))
  k_steps
  all_goals (first
    | refine g_end (Q := Q) hret _ (congrArg (fun z => Value.float (hf z) _) ?_) GG (by with_reducible assumption) ?_
    | (refine TEnd.intro (by k_asm) (by k_asm) (fun p hp => hp) ⟨_, rfl⟩ ?_; intro z h1 h2; simp only [h1, h2, if_false]))
  all_goals ((try unfold ny); unfold off sg; split <;> omega)
end
end Mine
namespace Mine
open PySem PySem.Float64 PySem.W PyProof.Rows PySem.Calls
local macro_rules | `(tactic| k_room) => `(tactic| ktr_room)
local macro_rules | `(tactic| walk_at "binaryOp Mod int int") => `(tactic| (k_here; k_dflt (refine' r_mod_ii ?k1 ?_; (case k1 => decide); k_whole); (try dsimp only)))
local macro_rules | `(tactic| walk_at "binaryOp Div int int") => `(tactic| (k_here; k_dflt (refine' r_div_ii ?k1 ?k2 ?k3 ?_; (case k1 => constructor <;> omega); (case k2 => constructor <;> omega); (case k3 => omega); k_whole); (try dsimp only)))
local macro_rules | `(tactic| walk_at "call builtin:math.floor") => `(tactic| (k_here; k_dflt (refine' r_floor_ii ?k0 ?k1 ?k2 ?k3 ?_; (case k0 => rfl); (case k1 => constructor <;> omega); (case k2 => constructor <;> omega); (case k3 => omega); k_whole; (try dsimp only))))
local macro_rules | `(tactic| walk_at "binaryOp Add float int") => `(tactic| (k_here; k_dflt (refine' r_add_fi ?k0 ?k1 ?k2 ?_; (case k0 => first | with_reducible exact rfl | exact lit_epoch); (case k1 => constructor <;> omega); (case k2 => constructor <;> omega); k_whole); (try dsimp only)))
local macro_rules | `(tactic| walk_at "inplaceOp Add float int") => `(tactic| (k_here; k_dflt (refine' r_iadd_fi ?k0 ?k1 ?k2 ?_; (case k0 => with_reducible exact rfl); (case k1 => constructor <;> omega); (case k2 => constructor <;> omega); k_whole); (try dsimp only)))
local macro_rules | `(tactic| walk_at "binaryOp Add int float") => `(tactic| (k_here; k_dflt (refine' r_add_if ?k0 ?k1 ?k2 ?_; (case k0 => first | with_reducible exact rfl | exact lit_half); (case k1 => constructor <;> omega); (case k2 => constructor <;> omega); k_whole); (try dsimp only)))
local macro_rules | `(tactic| walk_at "binaryOp Sub float float") => `(tactic| (k_here; k_dflt (refine' r_sub_ff ?k0 ?k1 ?k2 ?k3 ?k4 ?_; (case k0 => with_reducible exact rfl); (case k1 => with_reducible exact rfl); (case k2 => constructor <;> omega); (case k3 => constructor <;> omega); (case k4 => omega); k_whole); (try dsimp only)))
local macro_rules | `(tactic| walk_at "binaryOp Mult int float") => `(tactic| (k_here; k_dflt (refine' r_mul_if ?k0 ?k1 ?k2 ?k3 ?k4 ?k5 ?_; (case k0 => with_reducible exact rfl); (case k1 => constructor <;> omega); (case k2 => constructor <;> omega); (case k3 => constructor <;> omega); (case k4 => omega); (case k5 => omega); k_whole); (try dsimp only)))
local macro_rules | `(tactic| walk_at "binaryOp Mod float int") => `(tactic| (k_here; k_dflt (refine' r_mod_fi ?k0 ?k1 ?k2 ?k3 ?_; (case k0 => with_reducible exact rfl); (case k1 => constructor <;> omega); (case k2 => constructor <;> omega); (case k3 => decide); k_whole); (try dsimp only)))
local macro_rules | `(tactic| walk_at "compareOp Eq float int") => `(tactic| (k_here; k_dflt (refine' r_eq_fi ?k0 ?k1 ?_; (case k0 => with_reducible exact rfl); (case k1 => constructor <;> omega); k_whole); (try dsimp only)))
local macro_rules | `(tactic| walk_at "compareOp NotEq float int") => `(tactic| (k_here; k_dflt (refine' r_ne_fi ?k0 ?k1 ?_; (case k0 => with_reducible exact rfl); (case k1 => constructor <;> omega); k_whole); (try dsimp only)))
local macro_rules | `(tactic| walk_at "call type:int") => `(tactic| (k_here; k_dflt (refine' r_int ?k0 ?k1 ?k2 ?_; (case k0 => with_reducible exact rfl); (case k1 => constructor <;> omega); (case k2 => omega); k_whole); (try dsimp only)))
set_option hygiene false in
local macro_rules | `(tactic| walk_at "call builtin:divmod") => `(tactic| (k_here; k_dflt (refine' r_divmod ?k1 ?k2 ?k3 ?_ ?kz; (case k1 => k_asm); (case k2 => k_asm); (case k3 => decide); (case kz => exact Or.inl (PyProof.noPylong_small (by omega))); k_whole); intro dq dr h' hdq hdr F' N'; (try dsimp only)))
local macro_rules | `(tactic| walk_at "binaryOp FloorDiv int int") => `(tactic| (k_here; k_dflt (refine' r_fdiv_ii ?k0 ?k1 ?k2 ?_; (case k0 => rfl); (case k1 => decide); (case k2 => exact Or.inl (PyProof.noPylong_small (by omega))); k_whole); (try dsimp only)))
local macro_rules | `(tactic| walk_at "inplaceOp Add ref") => `(tactic| (k_here; (with_reducible show wpAny _ _ (inplaceOp Operator.Add (Value.ref _) (Value.ref _)) _ _ _); k_dflt (refine' iadd_in ?k1 ?k2 ?k3 ?k4 ?k5 ?k6 ?_; (case k1 => k_asm); (case k2 => k_asm); (case k3 => k_mem); (case k4 => k_mem); (case k5 => first | decide | size_fits); (case k6 => k_upd); k_whole); intro h' F' N'; (try k_sweep)))
section
variable {w : World} {mean : ExcName → Option Value} {mg mb : Str → Option Value}
local macro_rules | `(tactic| walk_at "call ref") => `(tactic| (k_here; (with_reducible show wpAny _ _ (PySem.call (Value.ref 119) _ _) _ _ _); k_dflt (refine' Gives.use (c_long _ _) ?k1 ?k2 ?k3 ?k4 ?k5 ?kK ?kd ?ku ?_; (case k1 => k_asm); (case k2 => k_asm); (case k3 => k_asm); (case k4 => k_asm); (case k5 => k_asm); (case kK => first | exact rfl | assumption); (case kd => ktr_room); (case ku => ktr_units); k_whole; intro t9 h9 tk9 F9 N9 S9 P9; (try (have cE9 := InElt.then (by with_reducible assumption) S9)); (try clear S9); (try k_sweep); (try dsimp only); (try k_fold))))
local macro_rules | `(tactic| walk_at "call ref") => `(tactic| (k_here; (with_reducible show wpAny _ _ (PySem.call (Value.ref 124) _ _) _ _ _); k_dflt (refine' Gives.use (c_lny _ _ ?kp) ?k1 ?k2 ?k3 ?k4 ?k5 ?kK ?kd ?ku ?_; (case kp => constructor <;> omega); (case k1 => k_asm); (case k2 => k_asm); (case k3 => k_asm); (case k4 => k_asm); (case k5 => k_asm); (case kK => first | exact rfl | assumption); (case kd => ktr_room); (case ku => ktr_units); k_whole; intro t9 h9 tk9 F9 N9 S9 P9; (try (have cE9 := InElt.then (by with_reducible assumption) S9)); (try clear S9); (try k_sweep); (try dsimp only); (try k_fold))))
abbrev R02 (w : World) (mean : ExcName → Option Value) (mg mb : Str → Option Value) := GivesRow PySem.Challenge.rw_ad5025_02.row.prog w (hd02.heap_39 w.params) hd02.view_39 (looseW hd02.view_39 []) mean mg mb
theorem c_row (y : Int) (t : Tok) (hy : 1 ≤ y ∧ y ≤ 100000001) : R02 w mean mg mb 3 131 [.int y t] (rowsOf y) := by
  unfold R02
  k_fill
  unfold GivesRow
  intro dp un gd cn cs a ccd cl outer A₀ base h₀ L m s Q E B F X T hk hroom hunits hret
  refine wpAny_call ?_
  k_dflt (refine' code_defG (news := []) ?k1 ?k2 ?k3 News.nil ?k5 ?kA ?kF ?kK ?k6 ?k7 ?k8 ?k9 ?kB ?_ ?c2 ?c3 ?c4 ?c5; (case kA => exact rfl); (case kF => exact rfl); (case kK => assumption); (case k1 => k_asm); (case k2 => k_asm); (case k3 => k_asm); (case k5 => k_asm); (case k6 => k_is); (case k7 => k_is); (case k8 => ktr_room); (case k9 => exact BindsTo.of_eq rfl); (case c5 => decide); (case kB => exact locs rfl); (case c2 => exact rfl); (case c3 => exact rfl); (case c4 => exact rfl); k_whole; intro g' L' h' FG' F' N' B' X' T' GG; (try dsimp only); (try k_lift B'); (try k_fold))
  k_steps
  all_goals (refine' row_end (Q := Q) hret GG (by with_reducible assumption) (by k_asm) ?hm ?hc ?hd ?hr; (case hm => k_mem); (case hc => exact rfl); (case hd => exact rfl); (case hr => ((first | rw [rows_t (m8t (by with_reducible assumption)) (m9t (by with_reducible assumption)) (by with_reducible assumption)] | rw [rows_t (m8t (by with_reducible assumption)) (m9f (by with_reducible assumption)) (by with_reducible assumption)] | rw [rows_t (m8f (by with_reducible assumption)) (m9t (by with_reducible assumption)) (by with_reducible assumption)] | rw [rows_t (m8f (by with_reducible assumption)) (m9f (by with_reducible assumption)) (by with_reducible assumption)] | rw [rows_f (m8t (by with_reducible assumption)) (m9t (by with_reducible assumption)) (by with_reducible assumption)] | rw [rows_f (m8t (by with_reducible assumption)) (m9f (by with_reducible assumption)) (by with_reducible assumption)] | rw [rows_f (m8f (by with_reducible assumption)) (m9t (by with_reducible assumption)) (by with_reducible assumption)] | rw [rows_f (m8f (by with_reducible assumption)) (m9f (by with_reducible assumption)) (by with_reducible assumption)]); (repeat' (first | exact Rows.nil | (refine' Rows.cons ?km ?_; (case km => k_mem)))))))
end
end Mine
namespace Mine
open PySem PySem.Float64 PySem.W PyProof.Rows PySem.Calls
local macro_rules | `(tactic| k_room) => `(tactic| ktr_room)
local macro_rules | `(tactic| walk_at "binaryOp Mod int int") => `(tactic| (k_here; k_dflt (refine' r_mod_ii ?k1 ?_; (case k1 => decide); k_whole); (try dsimp only)))
local macro_rules | `(tactic| walk_at "binaryOp Div int int") => `(tactic| (k_here; k_dflt (refine' r_div_ii ?k1 ?k2 ?k3 ?_; (case k1 => constructor <;> omega); (case k2 => constructor <;> omega); (case k3 => omega); k_whole); (try dsimp only)))
local macro_rules | `(tactic| walk_at "call builtin:math.floor") => `(tactic| (k_here; k_dflt (refine' r_floor_ii ?k0 ?k1 ?k2 ?k3 ?_; (case k0 => rfl); (case k1 => constructor <;> omega); (case k2 => constructor <;> omega); (case k3 => omega); k_whole; (try dsimp only))))
local macro_rules | `(tactic| walk_at "binaryOp Add float int") => `(tactic| (k_here; k_dflt (refine' r_add_fi ?k0 ?k1 ?k2 ?_; (case k0 => first | with_reducible exact rfl | exact lit_epoch); (case k1 => constructor <;> omega); (case k2 => constructor <;> omega); k_whole); (try dsimp only)))
local macro_rules | `(tactic| walk_at "inplaceOp Add float int") => `(tactic| (k_here; k_dflt (refine' r_iadd_fi ?k0 ?k1 ?k2 ?_; (case k0 => with_reducible exact rfl); (case k1 => constructor <;> omega); (case k2 => constructor <;> omega); k_whole); (try dsimp only)))
local macro_rules | `(tactic| walk_at "binaryOp Add int float") => `(tactic| (k_here; k_dflt (refine' r_add_if ?k0 ?k1 ?k2 ?_; (case k0 => first | with_reducible exact rfl | exact lit_half); (case k1 => constructor <;> omega); (case k2 => constructor <;> omega); k_whole); (try dsimp only)))
local macro_rules | `(tactic| walk_at "binaryOp Sub float float") => `(tactic| (k_here; k_dflt (refine' r_sub_ff ?k0 ?k1 ?k2 ?k3 ?k4 ?_; (case k0 => with_reducible exact rfl); (case k1 => with_reducible exact rfl); (case k2 => constructor <;> omega); (case k3 => constructor <;> omega); (case k4 => omega); k_whole); (try dsimp only)))
local macro_rules | `(tactic| walk_at "binaryOp Mult int float") => `(tactic| (k_here; k_dflt (refine' r_mul_if ?k0 ?k1 ?k2 ?k3 ?k4 ?k5 ?_; (case k0 => with_reducible exact rfl); (case k1 => constructor <;> omega); (case k2 => constructor <;> omega); (case k3 => constructor <;> omega); (case k4 => omega); (case k5 => omega); k_whole); (try dsimp only)))
local macro_rules | `(tactic| walk_at "binaryOp Mod float int") => `(tactic| (k_here; k_dflt (refine' r_mod_fi ?k0 ?k1 ?k2 ?k3 ?_; (case k0 => with_reducible exact rfl); (case k1 => constructor <;> omega); (case k2 => constructor <;> omega); (case k3 => decide); k_whole); (try dsimp only)))
local macro_rules | `(tactic| walk_at "compareOp Eq float int") => `(tactic| (k_here; k_dflt (refine' r_eq_fi ?k0 ?k1 ?_; (case k0 => with_reducible exact rfl); (case k1 => constructor <;> omega); k_whole); (try dsimp only)))
local macro_rules | `(tactic| walk_at "compareOp NotEq float int") => `(tactic| (k_here; k_dflt (refine' r_ne_fi ?k0 ?k1 ?_; (case k0 => with_reducible exact rfl); (case k1 => constructor <;> omega); k_whole); (try dsimp only)))
local macro_rules | `(tactic| walk_at "call type:int") => `(tactic| (k_here; k_dflt (refine' r_int ?k0 ?k1 ?k2 ?_; (case k0 => with_reducible exact rfl); (case k1 => constructor <;> omega); (case k2 => omega); k_whole); (try dsimp only)))
set_option hygiene false in
local macro_rules | `(tactic| walk_at "call builtin:divmod") => `(tactic| (k_here; k_dflt (refine' r_divmod ?k1 ?k2 ?k3 ?_ ?kz; (case k1 => k_asm); (case k2 => k_asm); (case k3 => decide); (case kz => exact Or.inl (PyProof.noPylong_small (by omega))); k_whole); intro dq dr h' hdq hdr F' N'; (try dsimp only)))
local macro_rules | `(tactic| walk_at "binaryOp FloorDiv int int") => `(tactic| (k_here; k_dflt (refine' r_fdiv_ii ?k0 ?k1 ?k2 ?_; (case k0 => rfl); (case k1 => decide); (case k2 => exact Or.inl (PyProof.noPylong_small (by omega))); k_whole); (try dsimp only)))
local macro_rules | `(tactic| walk_at "inplaceOp Add ref") => `(tactic| (k_here; (with_reducible show wpAny _ _ (inplaceOp Operator.Add (Value.ref _) (Value.ref _)) _ _ _); k_dflt (refine' iadd_in ?k1 ?k2 ?k3 ?k4 ?k5 ?k6 ?_; (case k1 => k_asm); (case k2 => k_asm); (case k3 => k_mem); (case k4 => k_mem); (case k5 => first | decide | size_fits); (case k6 => k_upd); k_whole); intro h' F' N'; (try k_sweep)))
section
variable {w : World} {mean : ExcName → Option Value} {mg mb : Str → Option Value}
theorem c_leap2 (y : Int) (t : Tok) : G02 w mean mg mb 1 49 [.int y t] True (fun _ => .bool (lng y)) := by
  rw [← lp_lng]; exact c_leap y t
theorem c_months2 (y : Int) (t : Tok) : G02 w mean mg mb 2 56 [.int y t] True (fun t => .int (mL y) t) := by
  unfold mL; rw [← lp_lng]; exact c_months y t
end
theorem any6 {d : Int} (h : (([353, 354, 355, 383, 384, 385] : List Int).any fun x => x == d) = false) : d ≠ 353 ∧ d ≠ 354 ∧ d ≠ 355 ∧ d ≠ 383 ∧ d ≠ 384 ∧ d ≠ 385 := by simp at h; omega
local macro_rules | `(tactic| walk_at "call ref") => `(tactic| (k_here; (with_reducible show wpAny _ _ (PySem.call (Value.ref 49) _ _) _ _ _); k_dflt (refine' Gives.use (c_leap2 _ _) ?k1 ?k2 ?k3 ?k4 ?k5 ?kK ?kd ?ku ?_; (case k1 => k_asm); (case k2 => k_asm); (case k3 => k_asm); (case k4 => k_asm); (case k5 => k_asm); (case kK => first | exact rfl | assumption); (case kd => ktr_room); (case ku => ktr_units); k_whole; intro t9 h9 tk9 F9 N9 S9 P9; (try (have cE9 := InElt.then (by with_reducible assumption) S9)); (try clear S9); (try k_sweep); (try dsimp only); (try k_fold))))
local macro_rules | `(tactic| walk_at "call ref") => `(tactic| (k_here; (with_reducible show wpAny _ _ (PySem.call (Value.ref 56) _ _) _ _ _); k_dflt (refine' Gives.use (c_months2 _ _) ?k1 ?k2 ?k3 ?k4 ?k5 ?kK ?kd ?ku ?_; (case k1 => k_asm); (case k2 => k_asm); (case k3 => k_asm); (case k4 => k_asm); (case k5 => k_asm); (case kK => first | exact rfl | assumption); (case kd => ktr_room); (case ku => ktr_units); k_whole; intro t9 h9 tk9 F9 N9 S9 P9; (try (have cE9 := InElt.then (by with_reducible assumption) S9)); (try clear S9); (try k_sweep); (try dsimp only); (try k_fold))))
local macro_rules | `(tactic| walk_at "call ref") => `(tactic| (k_here; (with_reducible show wpAny _ _ (PySem.call (Value.ref 77) _ _) _ _ _); k_dflt (refine' Gives.use (c_ydays _ _ ?kp) ?k1 ?k2 ?k3 ?k4 ?k5 ?kK ?kd ?ku ?_; (case kp => constructor <;> omega); (case k1 => k_asm); (case k2 => k_asm); (case k3 => k_asm); (case k4 => k_asm); (case k5 => k_asm); (case kK => first | exact rfl | assumption); (case kd => ktr_room); (case ku => ktr_units); k_whole; intro t9 h9 tk9 F9 N9 S9 P9; (try (have cE9 := InElt.then (by with_reducible assumption) S9)); (try clear S9); (try k_sweep); (try dsimp only); (try k_fold))))
local macro_rules | `(tactic| walk_at "call ref") => `(tactic| (k_here; (with_reducible show wpAny _ _ (PySem.call (Value.ref 119) _ _) _ _ _); k_dflt (refine' Gives.use (c_long _ _) ?k1 ?k2 ?k3 ?k4 ?k5 ?kK ?kd ?ku ?_; (case k1 => k_asm); (case k2 => k_asm); (case k3 => k_asm); (case k4 => k_asm); (case k5 => k_asm); (case kK => first | exact rfl | assumption); (case kd => ktr_room); (case ku => ktr_units); k_whole; intro t9 h9 tk9 F9 N9 S9 P9; (try (have cE9 := InElt.then (by with_reducible assumption) S9)); (try clear S9); (try k_sweep); (try dsimp only); (try k_fold))))
local macro_rules | `(tactic| walk_at "call ref") => `(tactic| (k_here; (with_reducible show wpAny _ _ (PySem.call (Value.ref 124) _ _) _ _ _); k_dflt (refine' Gives.use (c_lny _ _ ?kp) ?k1 ?k2 ?k3 ?k4 ?k5 ?kK ?kd ?ku ?_; (case kp => constructor <;> omega); (case k1 => k_asm); (case k2 => k_asm); (case k3 => k_asm); (case k4 => k_asm); (case k5 => k_asm); (case kK => first | exact rfl | assumption); (case kd => ktr_room); (case ku => ktr_units); k_whole; intro t9 h9 tk9 F9 N9 S9 P9; (try (have cE9 := InElt.then (by with_reducible assumption) S9)); (try clear S9); (try k_sweep); (try dsimp only); (try k_fold))))
local macro_rules | `(tactic| walk_at "call ref") => `(tactic| (k_here; (with_reducible show wpAny _ _ (PySem.call (Value.ref 84) _ _) _ _ _); k_dflt (refine' Gives.use (c_ml _ _ _ _ ?kp ?kq) ?k1 ?k2 ?k3 ?k4 ?k5 ?kK ?kd ?ku ?_; (case kp => constructor <;> omega); (case kq => constructor <;> omega); (case k1 => k_asm); (case k2 => k_asm); (case k3 => k_asm); (case k4 => k_asm); (case k5 => k_asm); (case kK => first | exact rfl | assumption); (case kd => ktr_room); (case ku => ktr_units); k_whole; intro t9 h9 tk9 F9 N9 S9 P9; (try (have cE9 := InElt.then (by with_reducible assumption) S9)); (try clear S9); (try k_sweep); (try dsimp only); (try k_fold))))
local macro_rules | `(tactic| walk_at "call ref") => `(tactic| (k_here; (with_reducible show wpAny _ _ (PySem.call (Value.ref 98) _ _) _ _ _); k_dflt (refine' Gives.use (c_jd _ _ _ _ _ _ ?kp ?kq ?kr) ?k1 ?k2 ?k3 ?k4 ?k5 ?kK ?kd ?ku ?_; (case kp => constructor <;> omega); (case kq => constructor <;> omega); (case kr => constructor <;> omega); (case k1 => k_asm); (case k2 => k_asm); (case k3 => k_asm); (case k4 => k_asm); (case k5 => k_asm); (case kK => first | exact rfl | assumption); (case kd => ktr_room); (case ku => ktr_units); k_whole; intro t9 h9 tk9 F9 N9 S9 P9; (try (have cE9 := InElt.then (by with_reducible assumption) S9)); (try clear S9); (try k_sweep); (try dsimp only); (try k_fold))))
local macro_rules | `(tactic| walk_at "call ref") => `(tactic| (k_here; (with_reducible show wpAny _ _ (PySem.call (Value.ref 112) _ _) _ _ _); k_dflt (refine' Gives.use (c_day _ _ ?kp) ?k1 ?k2 ?k3 ?k4 ?k5 ?kK ?kd ?ku ?_; (case kp => constructor <;> omega); (case k1 => k_asm); (case k2 => k_asm); (case k3 => k_asm); (case k4 => k_asm); (case k5 => k_asm); (case kK => first | exact rfl | assumption); (case kd => ktr_room); (case ku => ktr_units); k_whole; intro t9 h9 tk9 F9 N9 S9 P9; (try (have cE9 := InElt.then (by with_reducible assumption) S9)); (try clear S9); (try k_sweep); (try dsimp only); (try k_fold))))
set_option hygiene false in
local macro_rules | `(tactic| walk_at "eval IfExp") => `(tactic| (k_here; (fail_if_success (have m9 : MMark := by with_reducible assumption)); (with_reducible show wpAny _ _ (eval (Expr.IfExp (Expr.Compare _ [CmpOp.Lt, CmpOp.Lt] _ _) _ _ _) _) _ _ _); k_dflt (refine' meet_at (fun z => 1 ≤ z ∧ z ≤ 100000000) ?k1 ?k2 ?_ ?_; (case k1 => k_asm); (case k2 => k_asm); k_whole); rotate_left; (intro y ty hm9 tkm9 hy9 Fm9 Nm9; (have hyl := ylen_lny y); (have hyi := ylen_in y); (have hn0 := lny_ny y); (have hn1 := lny_ny (y + 1)); (have hmo := mL_or y); (try k_sweep); (try dsimp only); (try k_fold)); rotate_left; (have mm9 := mmark); (try k_fold)))
set_option hygiene false in
local macro_rules | `(tactic| walk_at "eval IfExp") => `(tactic| (k_here; (fail_if_success (have m9 : MMark := by with_reducible assumption)); (with_reducible show wpAny _ _ (eval (Expr.IfExp (Expr.Call _ _ _ _) _ _ _) _) _ _ _); k_dflt (refine' meet_at (fun z => z = mL y) ?k1 ?k2 ?_ ?_; (case k1 => k_asm); (case k2 => k_asm)); rotate_left; (intro y' ty' hm9' tkm9' hy9' Fm9' Nm9'; (try subst hy9'); (try k_sweep); (try dsimp only); (try k_fold)); rotate_left; (have mm9 := mmark); (try k_fold)))
set_option hygiene false in
local macro_rules | `(tactic| walk_at "call ref") => `(tactic| (k_here; (with_reducible show wpAny _ _ (PySem.call (Value.ref 131) _ _) _ _ _); k_dflt (refine' GivesRow.use (c_row _ _ ?kp) ?k1 ?k2 ?k3 ?k4 ?k5 ?kK ?kd ?ku ?_; (case kp => constructor <;> omega); (case k1 => k_asm); (case k2 => k_asm); (case k3 => k_asm); (case k4 => k_asm); (case k5 => k_asm); (case kK => first | exact rfl | assumption); (case kd => ktr_room); (case ku => ktr_units); k_whole; intro ax9 lo9 ws9 n9 tl9 h9 tk9 F9 N9 hm9 hc9 hd9 hr9; (try k_sweep); (try dsimp only); (try k_fold))))
set_option hygiene false in
local macro_rules | `(tactic| walk_at "pyIter ref") => `(tactic| (k_here; (with_reducible show wpAny _ _ (pyIter (Value.ref _)) (fun it s₂ => TurnsAt _ _ _ _ _ _ _ _ _ it s₂) _ _); k_dflt (refine' row_loop (nm := Str.ofString "jd") (x1 := Str.ofString "month") (x2 := Str.ofString "days") (Pc y) ?hh ?hF ?hN hm9 hc9 hd9 hr9 ?hk (Pc_start y) ?_ ?_; (case hh => rfl); (case hF => k_asm); (case hN => k_asm); (case hk => exact rfl)); rotate_left; (intro c9 tc9 u9 h9 tk9 hP9 F9 N9; (try dsimp only); (try k_fold)); rotate_left; (intro c9 tc9 a9 b9 r9 u9 T9 t19 t29 h9 tk9 own9 hP9 hT9 F9 N9; obtain ⟨ha19, ha29, hb9, hc9', hP9⟩ := hP9; (have hml9 := ml_bnd y a9); (try dsimp only); (try k_fold))))
local macro_rules | `(tactic| walk_at "exec For Tuple Call cons nil") => `(tactic| (k_here; (rename Fr _ _ _ _ => lF'); (with_unfolding_all refine' For_turns lF' ?_; k_whole)))
theorem yr_b (x : Int) : 1 ≤ 1 + x % 10 ^ Int.toNat 8 ∧ 1 + x % 10 ^ Int.toNat 8 ≤ 100000000 := by
  have h : (10 : Int) ^ Int.toNat 8 = 100000000 := by decide
  rw [h]; omega
/-- the walk of the law, from behind the head -/
theorem see02 : PySem.Challenge.rw_ad5025_02.Holds := hd02 (by
  k_go0
  all_goals (try k_fold)
  k_steps
  all_goals (try (refine Meet.intro (by k_asm) (by k_asm) ?_; first | exact yr_b _ | (constructor <;> omega) | (unfold mL; simp_all; done)))
  all_goals (first
    | (refine REnd.intro (c9 + b9) (by k_asm) (by k_asm) (fun p hp => hp) ⟨_, rfl⟩ hP9 ?_; intro z h1 h2 h3; simp only [h1, h2, h3, if_false])
    | (exfalso; omega)
    | (exfalso; have e7 := off_hi (y + 1) 0 7 rfl; have e8 : c9 = lny (y + 1) := hP9; rw [S7_0] at e7; omega)))
end Mine

theorem PySem.Challenge.cw_ad5025_02_holds : PySem.Challenge.rw_ad5025_02.Holds :=
  Mine.see02
