import PyProof.Rows.All
import Wide.All
import OpenK.AllK
import Wide.FinOn
import PySem.Challenge.RW_ad5025_01
set_option Elab.async false
set_option rowWalk.seconds 0
set_option linter.all false
set_option maxRecDepth 100000
set_option maxHeartbeats 8000000

namespace Mine
open PySem PySem.W PyProof.Rows
open_top hd01 for PySem.Challenge.rw_ad5025_01
end Mine
namespace Mine
/-- open_top leaves the lines for a module's top switched on: off again -/
theorem top_off : True := by
  w_top off
  trivial
end Mine
namespace Mine
set_option exponentiation.threshold 3000
open PySem PySem.Float64

theorem rep {n k : Nat} (hn : n ≤ 2 ^ 53) (hk : 52 ≤ k) (hk2 : k ≤ 1074) : ∃ t, t < infMag ∧ V t = n * 2 ^ k := by
  have hi : infMag = 2047 * 2 ^ 52 := rfl
  by_cases h0 : n = 0
  · subst h0
    exact ⟨0, by omega, by rw [Nat.zero_mul]; rfl⟩
  have hl1 := Nat.log2_self_le h0
  have hl2 : n < 2 ^ (n.log2 + 1) := Nat.lt_log2_self
  generalize n.log2 = L at *
  by_cases hL : L ≤ 52
  · have e1 : n * 2 ^ (52 - L) < 2 ^ 53 := by
      calc n * 2 ^ (52 - L) < 2 ^ (L + 1) * 2 ^ (52 - L) := Nat.mul_lt_mul_of_pos_right hl2 (Nat.two_pow_pos _)
        _ = 2 ^ 53 := by rw [← Nat.pow_add]; congr 1; omega
    have e2 : 2 ^ 52 ≤ n * 2 ^ (52 - L) := by
      calc 2 ^ 52 = 2 ^ L * 2 ^ (52 - L) := by rw [← Nat.pow_add]; congr 1; omega
        _ ≤ n * 2 ^ (52 - L) := Nat.mul_le_mul_right _ hl1
    have hv := V_at (k := k - (52 - L)) (q := n * 2 ^ (52 - L)) (by omega) (.inl e2)
    refine ⟨(k - (52 - L)) * 2 ^ 52 + n * 2 ^ (52 - L), by omega, ?_⟩
    rw [hv, Nat.mul_assoc, ← Nat.pow_add]
    congr 2
    omega
  · have hv := V_at (k := k) (q := n) hn (.inl (by
      have : 2 ^ 52 ≤ 2 ^ L := Nat.pow_le_pow_right (by decide) (by omega)
      omega))
    exact ⟨k * 2 ^ 52 + n, by omega, hv⟩

theorem V_inj {t t' : Nat} (h : V t = V t') : t = t' := by
  rcases Nat.lt_trichotomy t t' with g | g | g
  · have := V_lt g; omega
  · exact g
  · have := V_lt g; omega

theorem V_top {t : Nat} (h : t < infMag) : V t ≤ (2 ^ 53 - 1) * 2 ^ 2045 := by
  have hi : infMag = 2047 * 2 ^ 52 := rfl
  have hA : V (infMag - 1) = (2 ^ 53 - 1) * 2 ^ 2045 := by
    have e : infMag - 1 = 2045 * 2 ^ 52 + (2 ^ 53 - 1) := by omega
    rw [e]
    exact V_at (k := 2045) (q := 2 ^ 53 - 1) (by omega) (.inl (by omega))
  rw [← hA]
  exact V_mono (by omega)

theorem not_over {W D t : Nat} (hD : 0 < D) (ht : t < infMag) (h : W ≤ D * V t) : ¬ D * ((2 ^ 54 - 1) * 2 ^ 2045) ≤ 2 * W := by
  intro hc
  have h1 := V_top ht
  have h2 : D * V t ≤ D * ((2 ^ 53 - 1) * 2 ^ 2045) := Nat.mul_le_mul_left _ h1
  have hZ : (0 : Nat) < 2 ^ 2045 := Nat.two_pow_pos _
  generalize (2 : Nat) ^ 2045 = Z at *
  have e : (2 ^ 54 - 1) * Z = 2 * ((2 ^ 53 - 1) * Z) + Z := by omega
  have e2 : D * ((2 ^ 54 - 1) * Z) = 2 * (D * ((2 ^ 53 - 1) * Z)) + D * Z := by
    rw [e, Nat.mul_add, Nat.mul_left_comm]
  have : 0 < D * Z := Nat.mul_pos hD hZ
  generalize D * ((2 ^ 53 - 1) * Z) = u at *
  generalize D * ((2 ^ 54 - 1) * Z) = v at *
  omega

/-- what rounds to the nearest lies between any two floats that its exact value lies between -/
theorem between {r : UInt64} {neg : Bool} {W D a b : Nat} (h : Right r neg W D) (hD : 0 < D) (hb : b < infMag) (h1 : D * V a ≤ W) (h2 : W ≤ D * V b) :
    ∃ t, r = pack neg t ∧ t < infMag ∧ V a ≤ V t ∧ V t ≤ V b := by
  obtain ⟨t, hr, hle, hinf, hn⟩ := h
  have ht : t < infMag := by
    rcases Nat.lt_or_ge t infMag with g | g
    · exact g
    · exact absurd (hinf.mp (by omega)) (not_over hD hb h2)
  refine ⟨t, hr, ht, ?_, ?_⟩
  · rcases Nat.lt_or_ge (V t) (V a) with g | g
    · exfalso
      have h3 := (hn ht a).1
      have h4 : D * V t < D * V a := Nat.mul_lt_mul_of_pos_left g hD
      unfold dist at h3
      omega
    · exact g
  · rcases Nat.lt_or_ge (V b) (V t) with g | g
    · exfalso
      have h3 := (hn ht b).1
      have h4 : D * V b < D * V t := Nat.mul_lt_mul_of_pos_left g hD
      unfold dist at h3
      omega
    · exact g

theorem right_exact {r : UInt64} {neg : Bool} {W D a : Nat} (h : Right r neg W D) (hD : 0 < D) (ha : a < infMag) (hW : W = D * V a) : r = pack neg a := by
  obtain ⟨t, hr, _, h1, h2⟩ := between h hD ha (Nat.le_of_eq hW.symm) (Nat.le_of_eq hW)
  rw [hr, V_inj (Nat.le_antisymm h2 h1)]

/-- the float n / 2 -/
@[irreducible] def hf (n : Int) : UInt64 := ofFrac (decide (n < 0)) n.natAbs 2

theorem hf_right (n : Int) : Right (hf n) (decide (n < 0)) (n.natAbs * 2 ^ 1073) 1 := by
  unfold hf
  refine ofFrac_right (by decide) ?_ (by decide)
  rw [Nat.mul_one, Nat.mul_assoc, ← Nat.pow_succ]

theorem hf_pack {n : Int} (h : n.natAbs ≤ 2 ^ 53) : ∃ t, t < infMag ∧ V t = n.natAbs * 2 ^ 1073 ∧ hf n = pack (decide (n < 0)) t := by
  obtain ⟨t, ht, hv⟩ := rep (n := n.natAbs) (k := 1073) h (by omega) (by omega)
  exact ⟨t, ht, hv, right_exact (hf_right n) (by decide) ht (by rw [hv, Nat.one_mul])⟩

theorem sgn_abs (n : Int) (K : Nat) : sgn (decide (n < 0)) (n.natAbs * K) = n * (K : Int) := by
  rw [sgn_mul]
  congr 1
  unfold sgn
  by_cases h : n < 0
  · rw [decide_eq_true h, if_pos rfl]; omega
  · rw [decide_eq_false h, if_neg (by decide)]; omega

theorem hf_decode {n : Int} (h : n.natAbs ≤ 2 ^ 53) : ∃ m e, decode (hf n) = .fin (decide (n < 0)) m e ∧ val (hf n) = n * ((2 ^ 1073 : Nat) : Int) := by
  obtain ⟨t, ht, hv, hp⟩ := hf_pack h
  obtain ⟨m, e, hd, _⟩ := decode_pack (decide (n < 0)) ht
  refine ⟨m, e, by rw [hp, hd], ?_⟩
  rw [hp, val_pack _ ht, hv, sgn_abs]

theorem hf_of_right {r : UInt64} {n : Int} {W D : Nat} (hn : n.natAbs ≤ 2 ^ 53) (hD : 0 < D) (hW : W = D * (n.natAbs * 2 ^ 1073)) (h : Right r (decide (n < 0)) W D) : r = hf n := by
  obtain ⟨t, ht, hv, hp⟩ := hf_pack hn
  rw [hp]
  exact right_exact h hD ht (by rw [hv, hW])

theorem zero_hf : zero false = hf 0 := by
  obtain ⟨t, ht, hv, hp⟩ := hf_pack (n := 0) (by decide)
  have : t = 0 := V_inj (by rw [hv]; simp [V])
  rw [hp, this]
  rfl

theorem K_pos : (0 : Int) < ((2 ^ 1073 : Nat) : Int) := Int.ofNat_lt.mpr (Nat.two_pow_pos _)

theorem mulK_neg {n K : Int} (hK : 0 < K) : decide (n * K < 0) = decide (n < 0) := by
  apply decide_eq_decide.mpr
  constructor
  · intro h
    rcases Int.lt_or_le n 0 with g | g
    · exact g
    · have := Int.mul_nonneg g (Int.le_of_lt hK); omega
  · intro h; exact Int.mul_neg_of_neg_of_pos h hK
theorem mulK_zero {n K : Int} (hK : 0 < K) : n * K = 0 ↔ n = 0 := by
  rw [Int.mul_eq_zero]; omega

theorem hf_add {a b : Int} (ha : a.natAbs ≤ 2 ^ 53) (hb : b.natAbs ≤ 2 ^ 53) (hc : (a + b).natAbs ≤ 2 ^ 53) : add (hf a) (hf b) = hf (a + b) := by
  obtain ⟨m, e, hd, hv⟩ := hf_decode ha
  obtain ⟨k, f, hd2, hv2⟩ := hf_decode hb
  have h := add_right hd hd2
  rw [hv, hv2, ← Int.add_mul] at h
  by_cases hz : a + b = 0
  · rw [h.1 (by rw [hz, Int.zero_mul]), hz, ← zero_hf]
    congr 1
    by_cases g : a < 0
    · rw [decide_eq_false (p := b < 0) (by omega)]; simp
    · rw [decide_eq_false g]; simp
  · have h2 := h.2 (fun g => hz ((mulK_zero K_pos).mp g))
    rw [mulK_neg K_pos] at h2
    exact hf_of_right hc (by decide) (by rw [Nat.one_mul, Int.natAbs_mul, Int.natAbs_natCast]) h2

theorem hf_neg_val {b : Int} (hb : b.natAbs ≤ 2 ^ 53) : ∃ k f, decode (hf b) = .fin (decide (b < 0)) k f := by
  obtain ⟨m, e, hd, _⟩ := hf_decode hb
  exact ⟨m, e, hd⟩

theorem hf_sub {a b : Int} (ha : a.natAbs ≤ 2 ^ 53) (hb : b.natAbs ≤ 2 ^ 53) (hc : (a - b).natAbs ≤ 2 ^ 53) (hs : ¬ (a < 0 ∧ a = b)) : sub (hf a) (hf b) = hf (a - b) := by
  obtain ⟨m, e, hd, hv⟩ := hf_decode ha
  obtain ⟨k, f, hd2, hv2⟩ := hf_decode hb
  have h := sub_right hd hd2
  rw [hv, hv2, ← Int.sub_mul] at h
  by_cases hz : a - b = 0
  · rw [h.1 (by rw [hz, Int.zero_mul]), hz, ← zero_hf]
    congr 1
    rw [decide_eq_false (p := a < 0) (by omega)]; simp
  · have h2 := h.2 (fun g => hz ((mulK_zero K_pos).mp g))
    rw [mulK_neg K_pos] at h2
    exact hf_of_right hc (by decide) (by rw [Nat.one_mul, Int.natAbs_mul, Int.natAbs_natCast]) h2

theorem ofInt_hf {n : Int} (h : n.natAbs ≤ 2 ^ 52) : ofInt n = hf (2 * n) := by
  have h1 := ofInt_right n
  have e : decide (n < 0) = decide (2 * n < 0) := by apply decide_eq_decide.mpr; omega
  rw [e] at h1
  refine hf_of_right (by omega) (by decide) ?_ h1
  rw [Nat.one_mul, Int.natAbs_mul, show (2 : Int).natAbs = 2 from rfl, Nat.mul_comm 2, Nat.mul_assoc]

theorem hf_mul {a b c : Int} (ha : a.natAbs ≤ 2 ^ 53) (hb : b.natAbs ≤ 2 ^ 53) (hc : c.natAbs ≤ 2 ^ 53) (h0 : 0 ≤ a) (h1 : 0 ≤ b) (h : a * b = 2 * c) : mul (hf a) (hf b) = hf c := by
  obtain ⟨m, e, hd, hv⟩ := hf_decode ha
  obtain ⟨k, f, hd2, hv2⟩ := hf_decode hb
  have h2 := mul_right hd hd2
  have hc0 : 0 ≤ c := by have := Int.mul_nonneg h0 h1; omega
  rw [hv, hv2, decide_eq_false (p := a < 0) (by omega), decide_eq_false (p := b < 0) (by omega)] at h2
  refine hf_of_right hc (Nat.two_pow_pos _) ?_ (by rw [decide_eq_false (p := c < 0) (by omega)]; exact h2)
  rw [Int.natAbs_mul, Int.natAbs_mul, Int.natAbs_natCast]
  have e1 : a.natAbs * b.natAbs = 2 * c.natAbs := by rw [← Int.natAbs_mul, h, Int.natAbs_mul]; rfl
  have e2 : (2 : Nat) ^ 1074 = 2 ^ 1073 * 2 := by rw [← Nat.pow_succ]
  rw [e2]
  generalize (2 : Nat) ^ 1073 = K
  calc a.natAbs * K * (b.natAbs * K) = a.natAbs * b.natAbs * (K * K) := by ac_rfl
    _ = 2 * c.natAbs * (K * K) := by rw [e1]
    _ = K * 2 * (c.natAbs * K) := by ac_rfl

theorem compare_mulK {a b K : Int} (hK : 0 < K) : compare (a * K) (b * K) = compare a b := by
  rcases Int.lt_trichotomy a b with h | h | h
  · rw [Int.compare_eq_lt.mpr h, Int.compare_eq_lt.mpr (Int.mul_lt_mul_of_pos_right h hK)]
  · subst h; simp
  · rw [Int.compare_eq_gt.mpr h, Int.compare_eq_gt.mpr (Int.mul_lt_mul_of_pos_right h hK)]
theorem hf_cmp {a b : Int} (ha : a.natAbs ≤ 2 ^ 53) (hb : b.natAbs ≤ 2 ^ 53) : cmp (hf a) (hf b) = some (compare a b) := by
  obtain ⟨m, e, hd, hv⟩ := hf_decode ha
  obtain ⟨k, f, hd2, hv2⟩ := hf_decode hb
  rw [cmp_right hd hd2, hv, hv2, compare_mulK K_pos]
theorem hf_cmpInt {a b : Int} (ha : a.natAbs ≤ 2 ^ 53) : cmpInt (hf a) b = some (compare a (2 * b)) := by
  obtain ⟨m, e, hd, hv⟩ := hf_decode ha
  rw [cmpInt_right hd, hv]
  have e2 : b * (2 : Int) ^ 1074 = (2 * b) * ((2 ^ 1073 : Nat) : Int) := by
    rw [show ((2 ^ 1073 : Nat) : Int) = (2 : Int) ^ 1073 by simp, show (1074 : Nat) = 1073 + 1 from rfl, Int.pow_succ]
    generalize (2 : Int) ^ 1073 = K
    rw [Int.mul_comm 2 b, Int.mul_assoc, Int.mul_comm K 2]
  rw [e2, compare_mulK K_pos]

/-- floor of a decoded float by its value -/
theorem floorOf_val {x : UInt64} {s : Bool} {m : Nat} {e : Int} (hd : decode x = .fin s m e) : floorOf s m e = val x / ((2 ^ 1074 : Nat) : Int) := by
  have he := decode_ge hd
  rw [val_eq hd, sgn_mul]
  unfold floorOf
  split
  · rename_i h
    have e1 : (e + 1074).toNat = e.toNat + 1074 := by omega
    rw [e1, Nat.pow_add, Int.natCast_mul, ← Int.mul_assoc]
    rw [Int.mul_ediv_cancel _ (by have := Nat.two_pow_pos 1074; omega)]
    congr 1
  · rename_i h
    have e1 : 1074 = (e + 1074).toNat + (-e).toNat := by omega
    have e2 : ((2 ^ 1074 : Nat) : Int) = ((2 ^ (-e).toNat : Nat) : Int) * ((2 ^ (e + 1074).toNat : Nat) : Int) := by
      rw [← Int.natCast_mul, ← Nat.pow_add]
      congr 2
      omega
    rw [e2, Int.mul_ediv_mul_of_pos_left _ _ (Int.ofNat_lt.mpr (Nat.two_pow_pos _))]
    have hp : (0 : Int) ≤ 2 ^ (-e).toNat := Int.le_of_lt (Int.pow_pos (by decide))
    rw [Int.fdiv_eq_ediv_of_nonneg _ hp]
    congr 1

theorem hf_floor {n : Int} (h : n.natAbs ≤ 2 ^ 53) : ∃ s m e, decode (hf n) = .fin s m e ∧ floorOf s m e = n / 2 := by
  obtain ⟨m, e, hd, hv⟩ := hf_decode h
  refine ⟨_, m, e, hd, ?_⟩
  rw [floorOf_val hd, hv]
  have e2 : ((2 ^ 1074 : Nat) : Int) = 2 * ((2 ^ 1073 : Nat) : Int) := by
    rw [show (2 : Nat) ^ 1074 = 2 ^ 1073 * 2 by rw [← Nat.pow_succ], Nat.mul_comm]; exact Int.natCast_mul 2 _
  rw [e2, Int.mul_ediv_mul_of_pos_left _ _ K_pos]

theorem hf_trunc {n : Int} (h : n.natAbs ≤ 2 ^ 53) (h0 : 0 ≤ n) : ∃ s m e, decode (hf n) = .fin s m e ∧ truncOf s m e = n / 2 := by
  obtain ⟨s, m, e, hd, hf⟩ := hf_floor h
  obtain ⟨m', e', hd', _⟩ := hf_decode h
  rw [hd] at hd'
  cases hd'
  refine ⟨_, m, e, hd, ?_⟩
  unfold truncOf
  rw [if_neg (by simp; omega), hf]

/-- the floor of a quotient that is rounded to the nearest is the floor of the quotient -/
theorem quot_floor {r : UInt64} {a : Int} {b W D : Nat} (hD : 0 < D) (hb : 0 < b) (hW : W * b = a.natAbs * 2 ^ 1074 * D) (hs : a.natAbs + b ≤ 2 ^ 52)
    (h : Right r (decide (a < 0)) W D) : ∃ s m e, decode r = .fin s m e ∧ floorOf s m e = a / (b : Int) := by
  have hb2 := Nat.lt_log2_self (n := b)
  have hb1 := Nat.log2_self_le (n := b) (by omega)
  have hj : b.log2 + 1 ≤ 53 := by
    have : b.log2 < 53 := (Nat.log2_lt (by omega)).2 (by omega)
    omega
  generalize hJ : b.log2 + 1 = j at *
  have hS2 : 2 ^ j ≤ 2 * b := by rw [← hJ, Nat.pow_succ]; omega
  have hqr := Nat.div_add_mod a.natAbs b
  have hr := Nat.mod_lt a.natAbs hb
  generalize hQ : a.natAbs / b = q at *
  generalize hR : a.natAbs % b = ρ at *
  have hK : (2 : Nat) ^ 1074 = 2 ^ j * 2 ^ (1074 - j) := by rw [← Nat.pow_add]; congr 1; omega
  have hKp : 0 < 2 ^ (1074 - j) := Nat.two_pow_pos _
  have hSp : 0 < 2 ^ j := Nat.two_pow_pos _
  have hq1 : (q + 1) * 2 ^ j ≤ 2 ^ 53 := by
    calc (q + 1) * 2 ^ j ≤ (q + 1) * (2 * b) := Nat.mul_le_mul_left _ hS2
      _ = 2 * (b * q + b) := by rw [Nat.add_mul, Nat.one_mul, Nat.mul_add, Nat.mul_left_comm, Nat.mul_comm q b]
      _ ≤ 2 ^ 53 := by omega
  have hexp : (q + 1) * 2 ^ j = q * 2 ^ j + 2 ^ j := by rw [Nat.add_mul, Nat.one_mul]
  -- the two floats around it
  have core : ∃ t, r = pack (decide (a < 0)) t ∧ t < infMag ∧ (ρ = 0 → V t = q * 2 ^ 1074) ∧ (ρ ≠ 0 → q * 2 ^ 1074 < V t ∧ V t < (q + 1) * 2 ^ 1074) := by
    have scale : ∀ v : Nat, (b * v ≤ a.natAbs * 2 ^ 1074 → D * v ≤ W) ∧ (a.natAbs * 2 ^ 1074 ≤ b * v → W ≤ D * v) := by
      intro v
      constructor
      · intro hv
        refine Nat.le_of_mul_le_mul_right (c := b) ?_ hb
        rw [hW]
        calc D * v * b = b * v * D := by ac_rfl
          _ ≤ a.natAbs * 2 ^ 1074 * D := Nat.mul_le_mul_right _ hv
      · intro hv
        refine Nat.le_of_mul_le_mul_right (c := b) ?_ hb
        rw [hW]
        calc a.natAbs * 2 ^ 1074 * D ≤ b * v * D := Nat.mul_le_mul_right _ hv
          _ = D * v * b := by ac_rfl
    by_cases h0 : ρ = 0
    · obtain ⟨t0, ht0, hv0⟩ := rep (n := q * 2 ^ j) (k := 1074 - j) (by omega) (by omega) (by omega)
      rw [Nat.mul_assoc, ← hK] at hv0
      have ea : a.natAbs = b * q := by omega
      obtain ⟨t, hr', ht, h1, h2⟩ := between h hD ht0 ((scale _).1 (by rw [hv0, ea, Nat.mul_assoc]; exact Nat.le_refl _)) ((scale _).2 (by rw [hv0, ea, Nat.mul_assoc]; exact Nat.le_refl _))
      exact ⟨t, hr', ht, fun _ => by omega, fun g => absurd h0 g⟩
    · obtain ⟨t0, ht0, hv0⟩ := rep (n := q * 2 ^ j + 1) (k := 1074 - j) (by omega) (by omega) (by omega)
      obtain ⟨t1, ht1, hv1⟩ := rep (n := (q + 1) * 2 ^ j - 1) (k := 1074 - j) (by omega) (by omega) (by omega)
      have hbS : b ≤ 2 ^ j := by omega
      have hlo : b * V t0 ≤ a.natAbs * 2 ^ 1074 := by
        rw [hv0, hK, ← Nat.mul_assoc, ← Nat.mul_assoc]
        refine Nat.mul_le_mul_right _ ?_
        have : a.natAbs * 2 ^ j = b * (q * 2 ^ j) + ρ * 2 ^ j := by rw [← hqr, Nat.add_mul, Nat.mul_assoc]
        rw [this, Nat.mul_add, Nat.mul_one]
        have : 1 * 2 ^ j ≤ ρ * 2 ^ j := Nat.mul_le_mul_right _ (by omega)
        omega
      have hhi : a.natAbs * 2 ^ 1074 ≤ b * V t1 := by
        rw [hv1, hK, ← Nat.mul_assoc, ← Nat.mul_assoc]
        refine Nat.mul_le_mul_right _ ?_
        have e1 : a.natAbs * 2 ^ j = b * (q * 2 ^ j) + ρ * 2 ^ j := by rw [← hqr, Nat.add_mul, Nat.mul_assoc]
        have e2 : b * ((q + 1) * 2 ^ j - 1) = b * (q * 2 ^ j) + b * 2 ^ j - b := by rw [Nat.mul_sub, Nat.mul_one, hexp, Nat.mul_add]
        have e3 : ρ * 2 ^ j ≤ (b - 1) * 2 ^ j := Nat.mul_le_mul_right _ (by omega)
        have e4 : (b - 1) * 2 ^ j = b * 2 ^ j - 2 ^ j := by rw [Nat.sub_mul, Nat.one_mul]
        have e5 : 1 * 2 ^ j ≤ b * 2 ^ j := Nat.mul_le_mul_right _ (by omega)
        rw [e1, e2]
        omega
      obtain ⟨t, hr', ht, h1, h2⟩ := between h hD ht1 ((scale _).1 hlo) ((scale _).2 hhi)
      refine ⟨t, hr', ht, fun g => absurd g h0, fun _ => ?_⟩
      have g1 : q * 2 ^ 1074 < V t0 := by
        rw [hv0, hK, ← Nat.mul_assoc]
        exact Nat.mul_lt_mul_of_pos_right (by omega) hKp
      have g2 : V t1 < (q + 1) * 2 ^ 1074 := by
        rw [hv1, hK, ← Nat.mul_assoc]
        exact Nat.mul_lt_mul_of_pos_right (by omega) hKp
      omega
  obtain ⟨t, hr', ht, h1, h2⟩ := core
  obtain ⟨m, e, hd, hm⟩ := decode_pack (decide (a < 0)) ht
  rw [hr']
  refine ⟨_, m, e, hd, ?_⟩
  rw [floorOf_val hd, val_pack _ ht]
  have hP : 0 < (2 : Nat) ^ 1074 := Nat.two_pow_pos _
  generalize (2 : Nat) ^ 1074 = P at *
  have hbz : (b : Int) ≠ 0 := by omega
  have hqr' : (b : Int) * (q : Int) + (ρ : Int) = (a.natAbs : Int) := by rw [← hqr]; simp
  by_cases hn : a < 0
  · rw [decide_eq_true hn]
    unfold sgn
    rw [if_pos rfl]
    by_cases h0 : ρ = 0
    · have ea : a = (b : Int) * (-(q : Int)) := by rw [Int.mul_neg]; omega
      rw [h1 h0, ea, Int.mul_ediv_cancel_left _ hbz, Int.natCast_mul, ← Int.neg_mul, Int.mul_ediv_cancel _ (by omega)]
    · obtain ⟨g1, g2⟩ := h2 h0
      have ea : a = ((b : Int) - ρ) + (b : Int) * (-((q : Int) + 1)) := by rw [Int.mul_neg, Int.mul_add]; omega
      have z1 : ((b : Int) - ρ) / (b : Int) = 0 := Int.ediv_eq_zero_of_lt (by omega) (by omega)
      have ev : -(V t : Int) = ((((q + 1) * P : Nat) : Int) - (V t : Int)) + (P : Int) * (-((q : Int) + 1)) := by
        rw [Int.natCast_mul, Int.mul_neg, Int.mul_comm (P : Int)]; simp; omega
      have z2 : ((((q + 1) * P : Nat) : Int) - (V t : Int)) / (P : Int) = 0 := by
        rw [Nat.add_mul] at g2
        exact Int.ediv_eq_zero_of_lt (by rw [Nat.add_mul]; omega) (by rw [Nat.add_mul]; omega)
      rw [ev, Int.add_mul_ediv_left _ _ (by omega), z2, ea, Int.add_mul_ediv_left _ _ hbz, z1]
  · rw [decide_eq_false hn]
    unfold sgn
    rw [if_neg (by decide)]
    have ea : a = (ρ : Int) + (b : Int) * (q : Int) := by omega
    have z1 : (ρ : Int) / (b : Int) = 0 := Int.ediv_eq_zero_of_lt (by omega) (by omega)
    have hR : a / (b : Int) = q := by rw [ea, Int.add_mul_ediv_left _ _ hbz, z1]; omega
    rw [hR]
    by_cases h0 : ρ = 0
    · rw [h1 h0, Int.natCast_mul, Int.mul_ediv_cancel _ (by omega)]
    · obtain ⟨g1, g2⟩ := h2 h0
      have ev : (V t : Int) = ((V t : Int) - ((q * P : Nat) : Int)) + (P : Int) * (q : Int) := by
        rw [Int.natCast_mul, Int.mul_comm (P : Int)]; omega
      have z2 : ((V t : Int) - ((q * P : Nat) : Int)) / (P : Int) = 0 := by
        rw [Nat.add_mul] at g2
        exact Int.ediv_eq_zero_of_lt (by omega) (by omega)
      rw [ev, Int.add_mul_ediv_left _ _ (by omega), z2]
      omega

theorem ii_floor {a b : Int} (hb : 0 < b) (hs : a.natAbs + b.natAbs ≤ 2 ^ 52) :
    ∃ s m e, decode (ofFrac (decide (a < 0) != decide (b < 0)) a.natAbs b.natAbs) = .fin s m e ∧ floorOf s m e = a / b := by
  have h : Right (ofFrac (decide (a < 0)) a.natAbs b.natAbs) (decide (a < 0)) (a.natAbs * 2 ^ 1074) b.natAbs :=
    ofFrac_right (by omega) rfl (by omega)
  have h2 := quot_floor (by omega) (by omega) rfl hs h
  have e : ((b.natAbs : Nat) : Int) = b := by omega
  rw [e] at h2
  rw [decide_eq_false (p := b < 0) (by omega), Bool.bne_false]
  exact h2
theorem ff_floor {a b : Int} (hb : 0 < b) (hs : a.natAbs + b.natAbs ≤ 2 ^ 52) :
    ∃ s m e, decode (div (hf a) (hf b)) = .fin s m e ∧ floorOf s m e = a / b := by
  obtain ⟨m, e, hd, hv⟩ := hf_decode (n := a) (by omega)
  obtain ⟨k, f, hd2, hv2⟩ := hf_decode (n := b) (by omega)
  have hk : k ≠ 0 := by
    intro g
    have := val_eq hd2
    rw [hv2, g, Nat.zero_mul] at this
    have h0 : sgn (decide (b < 0)) 0 = 0 := by unfold sgn; split <;> rfl
    rw [h0] at this
    rcases Int.mul_eq_zero.mp this with h | h
    · omega
    · have := K_pos; omega
  have h := div_right hd hd2 hk
  rw [hv, hv2, decide_eq_false (p := b < 0) (by omega), Bool.bne_false, Int.natAbs_mul, Int.natAbs_mul, Int.natAbs_natCast] at h
  have h2 := quot_floor (b := b.natAbs) (Nat.mul_pos (by omega) (Nat.two_pow_pos _)) (by omega) (by
    generalize (2 : Nat) ^ 1073 = K
    generalize (2 : Nat) ^ 1074 = P
    ac_rfl) hs h
  have e : ((b.natAbs : Nat) : Int) = b := by omega
  rw [e] at h2
  exact h2
end Mine
namespace Mine
set_option exponentiation.threshold 3000
open PySem PySem.Float64 PySem.W PyProof.Rows

theorem ff_floor2 {a b : Int} (hb : 0 < b) (hs : a.natAbs + b.natAbs ≤ 2 ^ 52) (ha : (2 * a).natAbs ≤ 2 ^ 53) (hb2 : (2 * b).natAbs ≤ 2 ^ 53) :
    ∃ s m e, decode (div (hf (2 * a)) (hf (2 * b))) = .fin s m e ∧ floorOf s m e = a / b := by
  obtain ⟨m, e, hd, hv⟩ := hf_decode ha
  obtain ⟨k, f, hd2, hv2⟩ := hf_decode hb2
  have hk : k ≠ 0 := by
    intro g
    have := val_eq hd2
    rw [hv2, g, Nat.zero_mul] at this
    have h0 : sgn (decide (2 * b < 0)) 0 = 0 := by unfold sgn; split <;> rfl
    rw [h0] at this
    rcases Int.mul_eq_zero.mp this with h | h
    · omega
    · have := K_pos; omega
  have h := div_right hd hd2 hk
  rw [hv, hv2, decide_eq_false (p := 2 * b < 0) (by omega), Bool.bne_false, Int.natAbs_mul, Int.natAbs_mul, Int.natAbs_natCast, Int.natAbs_mul, Int.natAbs_mul] at h
  have e1 : decide (2 * a < 0) = decide (a < 0) := by apply decide_eq_decide.mpr; omega
  rw [e1] at h
  have h2 := quot_floor (b := b.natAbs) (Nat.mul_pos (Nat.mul_pos (by decide) (by omega)) (Nat.two_pow_pos _)) (by omega) (by
    generalize (2 : Nat) ^ 1073 = K
    generalize (2 : Nat) ^ 1074 = P
    ac_rfl) hs h
  have e : ((b.natAbs : Nat) : Int) = b := by omega
  rw [e] at h2
  exact h2

/-- what the machine's remainder of two such floats is -/
theorem fmod_right {a b : Int} (ha : a.natAbs ≤ 2 ^ 53) (hb : b.natAbs ≤ 2 ^ 53) (h0 : 0 < b) :
    Right (fmod (hf a) (hf b)) (decide (a < 0)) (a.natAbs % b.natAbs * 2 ^ 1073) 1 := by
  obtain ⟨m, e, hd, hv⟩ := hf_decode ha
  obtain ⟨k, f, hd2, hv2⟩ := hf_decode hb
  have he := decode_ge hd
  have hf' := decode_ge hd2
  have n1 := val_natAbs hd
  have n2 := val_natAbs hd2
  rw [hv, Int.natAbs_mul, Int.natAbs_natCast] at n1
  rw [hv2, Int.natAbs_mul, Int.natAbs_natCast] at n2
  have hk : k ≠ 0 := by
    intro g
    rw [g, Nat.zero_mul] at n2
    rcases Nat.mul_eq_zero.mp n2 with h | h
    · omega
    · have := Nat.two_pow_pos 1073; omega
  have hfm : fmod (hf a) (hf b) = ofBin (decide (a < 0)) (m * 2 ^ (e - min e f).toNat % (k * 2 ^ (f - min e f).toNat)) (min e f) := by
    unfold fmod
    rw [hd, hd2]
    simp only
    rw [if_neg (by simpa using hk)]
    rfl
  rw [hfm]
  unfold ofBin
  refine ofFrac_right (shift_pos _ _ _ (by decide)) ?_ (by decide)
  have := shift_one (m * 2 ^ (e - min e f).toNat % (k * 2 ^ (f - min e f).toNat)) (min e f) 1074 (by omega)
  rw [Nat.mul_one]
  refine this.trans ?_
  congr 1
  have e1 : (min e f + ((1074 : Nat) : Int)).toNat = (min e f + 1074).toNat := rfl
  rw [e1, Nat.mul_comm _ (2 ^ (min e f + 1074).toNat), ← Nat.mul_mod_mul_left]
  have g1 : 2 ^ (min e f + 1074).toNat * (m * 2 ^ (e - min e f).toNat) = m * 2 ^ (e + 1074).toNat := by
    rw [Nat.mul_comm, Nat.mul_assoc, ← Nat.pow_add]; congr 2; omega
  have g2 : 2 ^ (min e f + 1074).toNat * (k * 2 ^ (f - min e f).toNat) = k * 2 ^ (f + 1074).toNat := by
    rw [Nat.mul_comm, Nat.mul_assoc, ← Nat.pow_add]; congr 2; omega
  rw [g1, g2, ← n1, ← n2, Nat.mul_mod_mul_right]

theorem zeros : isZero (pack true 0) = true ∧ isZero (pack false 0) = true ∧ isNaN (zero false) = false ∧ (zero false).toNat = 0 := by decide +kernel
theorem hf_mod {a b : Int} (ha : a.natAbs ≤ 2 ^ 52) (hb : b.natAbs ≤ 2 ^ 52) (h0 : 0 < b) : (divmod (hf a) (hf b)).2 = hf (a % b) := by
  have hr := fmod_right (a := a) (b := b) (by omega) (by omega) h0
  have hlt : a.natAbs % b.natAbs < b.natAbs := Nat.mod_lt _ (by omega)
  have hqr := Nat.div_add_mod a.natAbs b.natAbs
  generalize hρ : a.natAbs % b.natAbs = ρ at *
  generalize hq : a.natAbs / b.natAbs = q at *
  have eb : ((b.natAbs : Nat) : Int) = b := by omega
  have hqr' : b * (q : Int) + (ρ : Int) = (a.natAbs : Int) := by rw [← hqr, Int.natCast_add, Int.natCast_mul, eb]
  have hz := zeros
  have hsnd : (divmod (hf a) (hf b)).2 = if isZero (fmod (hf a) (hf b)) then copysign (zero false) (hf b) else if lt (hf b) (zero false) != lt (fmod (hf a) (hf b)) (zero false) then add (fmod (hf a) (hf b)) (hf b) else fmod (hf a) (hf b) := by
    unfold divmod
    simp only
    by_cases c1 : isZero (fmod (hf a) (hf b)) = true
    · rw [if_pos c1, if_pos c1]
    · rw [if_neg c1, if_neg c1]
      by_cases c2 : (lt (hf b) (zero false) != lt (fmod (hf a) (hf b)) (zero false)) = true
      · rw [if_pos c2, if_pos c2]
      · rw [if_neg c2, if_neg c2]
  rw [hsnd]
  by_cases h1 : ρ = 0
  · have hm : fmod (hf a) (hf b) = pack (decide (a < 0)) 0 := right_exact hr (by decide) (by decide) (by rw [h1]; simp [V])
    have hc : isZero (fmod (hf a) (hf b)) = true := by
      rw [hm]
      by_cases hn : a < 0
      · rw [decide_eq_true hn]; exact hz.1
      · rw [decide_eq_false hn]; exact hz.2.1
    rw [if_pos hc]
    have hab : a % b = 0 := by
      apply Int.emod_eq_zero_of_dvd
      by_cases hn : a < 0
      · exact ⟨-(q : Int), by rw [Int.mul_neg]; omega⟩
      · exact ⟨(q : Int), by omega⟩
    rw [hab, ← zero_hf]
    obtain ⟨t, ht, hv, hp⟩ := hf_pack (n := b) (by omega)
    have hi : infMag = 2047 * 2 ^ 52 := rfl
    have hsb : signBit (hf b) = false := by
      unfold signBit
      rw [hp, decide_eq_false (p := b < 0) (by omega), pack_toNat false (t := t) (by omega)]
      simp
      omega
    unfold copysign
    rw [if_neg (by rw [hz.2.2.1]; decide), hsb, hz.2.2.2]
    rfl
  · have hdiv : ∀ c : Int, ∀ q' : Int, a = c + b * q' → 0 ≤ c → c < b → a % b = c := by
      intro c q' e1 e2 e3
      rw [e1, Int.add_mul_emod_self_left]
      exact Int.emod_eq_of_lt e2 e3
    by_cases hn : a < 0
    · have hm : fmod (hf a) (hf b) = hf (-(ρ : Int)) := hf_of_right (W := ρ * 2 ^ 1073) (D := 1) (by omega) (by decide) (by rw [Nat.one_mul, Int.natAbs_neg, Int.natAbs_natCast]) (by rw [decide_eq_true (p := -(ρ : Int) < 0) (by omega), ← decide_eq_true hn]; exact hr)
      have hnz : isZero (hf (-(ρ : Int))) = false := by
        obtain ⟨m, e, hd, hv⟩ := hf_decode (n := -(ρ : Int)) (by omega)
        unfold isZero
        rw [hd]
        cases m with
        | zero =>
          have := val_eq hd
          rw [hv, Nat.zero_mul] at this
          have h00 : sgn (decide (-(ρ : Int) < 0)) 0 = 0 := by unfold sgn; split <;> rfl
          rw [h00] at this
          rcases Int.mul_eq_zero.mp this with h | h
          · omega
          · have := K_pos; omega
        | succ n => rfl
      rw [hm, if_neg (by rw [hnz]; decide), zero_hf]
      have c1 : lt (hf b) (hf 0) = false := by
        unfold lt
        rw [hf_cmp (by omega) (by decide), Int.compare_eq_gt.mpr (by omega)]
        rfl
      have c2 : lt (hf (-(ρ : Int))) (hf 0) = true := by
        unfold lt
        rw [hf_cmp (by omega) (by decide), Int.compare_eq_lt.mpr (by omega)]
        rfl
      rw [c1, c2, if_pos (by decide), hf_add (by omega) (by omega) (by omega)]
      congr 1
      have e9 : a = (-(ρ : Int) + b) + b * (-(q : Int) - 1) := by
        rw [Int.mul_sub, Int.mul_neg]; omega
      exact (hdiv _ _ e9 (by omega) (by omega)).symm
    · have hm : fmod (hf a) (hf b) = hf (ρ : Int) := hf_of_right (W := ρ * 2 ^ 1073) (D := 1) (by omega) (by decide) (by rw [Nat.one_mul, Int.natAbs_natCast]) (by rw [decide_eq_false (p := (ρ : Int) < 0) (by omega), ← decide_eq_false hn]; exact hr)
      have hnz : isZero (hf (ρ : Int)) = false := by
        obtain ⟨m, e, hd, hv⟩ := hf_decode (n := (ρ : Int)) (by omega)
        unfold isZero
        rw [hd]
        cases m with
        | zero =>
          have := val_eq hd
          rw [hv, Nat.zero_mul] at this
          have h00 : sgn (decide ((ρ : Int) < 0)) 0 = 0 := by unfold sgn; split <;> rfl
          rw [h00] at this
          rcases Int.mul_eq_zero.mp this with h | h
          · omega
          · have := K_pos; omega
        | succ n => rfl
      rw [hm, if_neg (by rw [hnz]; decide), zero_hf]
      have c1 : lt (hf b) (hf 0) = false := by
        unfold lt
        rw [hf_cmp (by omega) (by decide), Int.compare_eq_gt.mpr (by omega)]
        rfl
      have c2 : lt (hf (ρ : Int)) (hf 0) = false := by
        unfold lt
        rw [hf_cmp (by omega) (by decide), Int.compare_eq_gt.mpr (by omega)]
        rfl
      rw [c1, c2, if_neg (by decide)]
      congr 1
      exact (hdiv _ (q : Int) (by omega) (by omega) (by omega)).symm

/-! rules of the walk -/
theorem lit_half : (4602678819172646912 : UInt64) = hf 1 := by
  unfold hf; decide +kernel
theorem lit_epoch : (4689722129631936512 : UInt64) = hf 695991 := by
  unfold hf; decide +kernel

abbrev Sm (n : Int) : Prop := -2000000000000000 ≤ n ∧ n ≤ 2000000000000000

section
variable {prog : Program} {w : World} {A : Around} {E : Value → Shared → Prop} {s : Shared} {t u : Tok} {Q : Value → Shared → Prop} {x y : UInt64} {a b n : Int}

theorem r_add_fi (hx : x = hf a) (ha : Sm a) (hn : Sm n) (h : Q (.float (hf (a + 2 * n)) s.toks) { s with toks := s.toks + 1 }) : wpAny (model prog w) A (binaryOp .Add (.float x t) (.int n u)) Q E s := by
  subst hx
  refine add_fi_fits (by omega) ?_
  rw [ofInt_hf (by omega), hf_add (by omega) (by omega) (by omega)]
  exact h
theorem r_iadd_fi (hx : x = hf a) (ha : Sm a) (hn : Sm n) (h : Q (.float (hf (a + 2 * n)) s.toks) { s with toks := s.toks + 1 }) : wpAny (model prog w) A (inplaceOp .Add (.float x t) (.int n u)) Q E s := by
  subst hx
  refine PySem.Flt.iadd_fi_1 (Float64.ofInt_fits (by omega)) ?_
  rw [ofInt_hf (by omega), hf_add (by omega) (by omega) (by omega)]
  exact h
theorem r_add_if (hx : x = hf a) (ha : Sm a) (hn : Sm n) (h : Q (.float (hf (2 * n + a)) s.toks) { s with toks := s.toks + 1 }) : wpAny (model prog w) A (binaryOp .Add (.int n u) (.float x t)) Q E s := by
  subst hx
  refine add_if_fits (by omega) ?_
  rw [ofInt_hf (by omega), hf_add (by omega) (by omega) (by omega)]
  exact h
theorem r_add_ff (hx : x = hf a) (hy : y = hf b) (ha : Sm a) (hb : Sm b) (h : Q (.float (hf (a + b)) s.toks) { s with toks := s.toks + 1 }) : wpAny (model prog w) A (binaryOp .Add (.float x t) (.float y u)) Q E s := by
  subst hx; subst hy
  refine add_float ?_
  rw [hf_add (by omega) (by omega) (by omega)]
  exact h
theorem r_sub_ff (hx : x = hf a) (hy : y = hf b) (ha : Sm a) (hb : Sm b) (h0 : 0 ≤ a) (h : Q (.float (hf (a - b)) s.toks) { s with toks := s.toks + 1 }) : wpAny (model prog w) A (binaryOp .Sub (.float x t) (.float y u)) Q E s := by
  subst hx; subst hy
  refine sub_float ?_
  rw [hf_sub (by omega) (by omega) (by omega) (by omega)]
  exact h
theorem r_sub_fi (hx : x = hf a) (ha : Sm a) (hn : Sm n) (h0 : 0 ≤ a) (h : Q (.float (hf (a - 2 * n)) s.toks) { s with toks := s.toks + 1 }) : wpAny (model prog w) A (binaryOp .Sub (.float x t) (.int n u)) Q E s := by
  subst hx
  refine sub_fi_fits (by omega) ?_
  rw [ofInt_hf (by omega), hf_sub (by omega) (by omega) (by omega) (by omega)]
  exact h
theorem r_mul_if (hx : x = hf a) (ha : Sm a) (hn : Sm n) (hc : Sm (n * a)) (h0 : 0 ≤ a) (h1 : 0 ≤ n) (h : Q (.float (hf (n * a)) s.toks) { s with toks := s.toks + 1 }) : wpAny (model prog w) A (binaryOp .Mult (.int n u) (.float x t)) Q E s := by
  subst hx
  refine mul_if_fits (by omega) ?_
  rw [ofInt_hf (by omega), hf_mul (c := n * a) (by omega) (by omega) (by omega) (by omega) (by omega) (by rw [Int.mul_assoc])]
  exact h
theorem r_mul_fi (hx : x = hf a) (ha : Sm a) (hn : Sm n) (hc : Sm (a * n)) (h0 : 0 ≤ a) (h1 : 0 ≤ n) (h : Q (.float (hf (a * n)) s.toks) { s with toks := s.toks + 1 }) : wpAny (model prog w) A (binaryOp .Mult (.float x t) (.int n u)) Q E s := by
  subst hx
  refine mul_fi_fits (by omega) ?_
  rw [ofInt_hf (by omega), hf_mul (c := a * n) (by omega) (by omega) (by omega) (by omega) (by omega) (by rw [Int.mul_left_comm])]
  exact h
theorem isZero_hf (hb : b ≤ 4000000000000000) (h0 : 0 < b) : ¬ isZero (hf b) = true := by
  obtain ⟨m, e, hd, hv⟩ := hf_decode (n := b) (by omega)
  unfold isZero
  rw [hd]
  cases m with
  | zero =>
    have := val_eq hd
    rw [hv, Nat.zero_mul] at this
    have h00 : sgn (decide (b < 0)) 0 = 0 := by unfold sgn; split <;> rfl
    rw [h00] at this
    rcases Int.mul_eq_zero.mp this with h | h
    · omega
    · have := K_pos; omega
  | succ n => simp
theorem r_mod_fi (hx : x = hf a) (ha : Sm a) (hn : Sm n) (h0 : 0 < n) (h : Q (.float (hf (a % (2 * n))) s.toks) { s with toks := s.toks + 1 }) : wpAny (model prog w) A (binaryOp .Mod (.float x t) (.int n u)) Q E s := by
  subst hx
  refine AutoFloatOps.mod_fi_2 (Float64.ofInt_fits (by omega)) ?_ ?_
  · rw [ofInt_hf (by omega)]; exact isZero_hf (b := 2 * n) (by omega) (by omega)
  · rw [ofInt_hf (by omega), hf_mod (by omega) (by omega) (by omega)]
    exact h
theorem r_div_ii (ha : Sm a) (hb : Sm b) (h0 : 0 < b) (h : Q (.float (Float64.ofFrac (decide (a < 0) != decide (b < 0)) a.natAbs b.natAbs) s.toks) { s with toks := s.toks + 1 }) : wpAny (model prog w) A (binaryOp .Div (.int a t) (.int b u)) Q E s :=
  AutoIntOps.truediv_2 (by simp; omega) (PySem.Flt.quot_fits (by omega) (by omega)) h
theorem r_div_fi (hx : x = hf a) (hn : Sm n) (h0 : 0 < n) (h : Q (.float (Float64.div (hf a) (hf (2 * n))) s.toks) { s with toks := s.toks + 1 }) : wpAny (model prog w) A (binaryOp .Div (.float x t) (.int n u)) Q E s := by
  subst hx
  refine AutoFloatOps.truediv_fi_2 (Float64.ofInt_fits (by omega)) ?_ ?_
  · rw [ofInt_hf (by omega)]; exact isZero_hf (b := 2 * n) (by omega) (by omega)
  · rw [ofInt_hf (by omega)]; exact h
theorem r_div_ff (hx : x = hf a) (hy : y = hf b) (hb : Sm b) (h0 : 0 < b) (h : Q (.float (Float64.div (hf a) (hf b)) s.toks) { s with toks := s.toks + 1 }) : wpAny (model prog w) A (binaryOp .Div (.float x t) (.float y u)) Q E s := by
  subst hx; subst hy
  exact AutoFloatOps.truediv_1 (isZero_hf (by omega) h0) h
theorem floor_of {i : Int} (hA : A.handled = none) (hd : ∃ s m e, decode x = .fin s m e ∧ floorOf s m e = i) (h : Q (.int i s.toks) { s with toks := s.toks + 1 }) : wpAny (model prog w) A (call (.builtin "math.floor") [.float x t]) Q E s := by
  obtain ⟨sg, m, e, hd, hi⟩ := hd
  refine PySem.Flt.call_floor_float hA (fun g => ?_) (fun g => ?_) fun _ => ?_
  · unfold Float64.isNaN at g; rw [hd] at g; cases g
  · unfold Float64.isInf at g; rw [hd] at g; cases g
  · rw [PySem.Flt.toInt_fin hd, hi]; exact h
theorem r_floor_ii (hA : A.handled = none) (ha : Sm a) (hb : Sm b) (h0 : 0 < b) (h : Q (.int (a / b) s.toks) { s with toks := s.toks + 1 }) : wpAny (model prog w) A (call (.builtin "math.floor") [.float (Float64.ofFrac (decide (a < 0) != decide (b < 0)) a.natAbs b.natAbs) t]) Q E s :=
  floor_of hA (ii_floor h0 (by omega)) h
theorem r_floor_ff (hA : A.handled = none) (ha : Sm a) (hb : Sm b) (h0 : 0 < b) (h : Q (.int (a / b) s.toks) { s with toks := s.toks + 1 }) : wpAny (model prog w) A (call (.builtin "math.floor") [.float (Float64.div (hf a) (hf b)) t]) Q E s :=
  floor_of hA (ff_floor h0 (by omega)) h
theorem r_floor (hA : A.handled = none) (hx : x = hf a) (ha : Sm a) (h : Q (.int (a / 2) s.toks) { s with toks := s.toks + 1 }) : wpAny (model prog w) A (call (.builtin "math.floor") [.float x t]) Q E s := by
  subst hx
  exact floor_of hA (hf_floor (by omega)) h
theorem r_int (hx : x = hf a) (ha : Sm a) (h0 : 0 ≤ a) (h : Q (.int (a / 2) s.toks) { s with toks := s.toks + 1 }) : wpAny (model prog w) A (call (.type "int") [.float x t]) Q E s := by
  subst hx
  obtain ⟨sg, m, e, hd, hi⟩ := hf_trunc (n := a) (by omega) h0
  refine call_int_float hd ?_
  rw [hi]
  exact h

theorem cmp_lt {p q : Int} : (some (compare p q) == some Ordering.lt) = decide (p < q) := by
  rcases Int.lt_trichotomy p q with h | h | h
  · rw [Int.compare_eq_lt.mpr h, decide_eq_true h]; rfl
  · subst h; simp
  · rw [Int.compare_eq_gt.mpr h, decide_eq_false (by omega)]; rfl
theorem cmp_gt {p q : Int} : (some (compare p q) == some Ordering.gt) = decide (q < p) := by
  rcases Int.lt_trichotomy p q with h | h | h
  · rw [Int.compare_eq_lt.mpr h, decide_eq_false (by omega)]; rfl
  · subst h; simp
  · rw [Int.compare_eq_gt.mpr h, decide_eq_true (by omega)]; rfl
theorem cmp_eq {p q : Int} : (some (compare p q) == some Ordering.eq) = decide (p = q) := by
  rcases Int.lt_trichotomy p q with h | h | h
  · rw [Int.compare_eq_lt.mpr h, decide_eq_false (by omega)]; rfl
  · subst h; simp
  · rw [Int.compare_eq_gt.mpr h, decide_eq_false (by omega)]; rfl
theorem cmp_ge {p q : Int} : (some (compare p q) == some Ordering.gt || some (compare p q) == some Ordering.eq) = decide (q ≤ p) := by
  rw [cmp_gt, cmp_eq, ← Bool.decide_or]
  apply decide_eq_decide.mpr; omega
theorem cmp_ne {p q : Int} : (some (compare p q) != some Ordering.eq) = decide (p ≠ q) := by
  show (!(some (compare p q) == some Ordering.eq)) = _
  rw [cmp_eq]; simp

theorem r_lt_ff (hx : x = hf a) (hy : y = hf b) (ha : Sm a) (hb : Sm b) (h : Q (.bool (decide (a < b))) s) : wpAny (model prog w) A (compareOp .Lt (.float x t) (.float y u)) Q E s := by
  subst hx; subst hy
  refine AutoFloatOps.lt_0 ?_
  rw [hf_cmp (by omega) (by omega), cmp_lt]; exact h
theorem r_gt_ff (hx : x = hf a) (hy : y = hf b) (ha : Sm a) (hb : Sm b) (h : Q (.bool (decide (b < a))) s) : wpAny (model prog w) A (compareOp .Gt (.float x t) (.float y u)) Q E s := by
  subst hx; subst hy
  refine AutoFloatOps.gt_0 ?_
  rw [hf_cmp (by omega) (by omega), cmp_gt]; exact h
theorem r_ge_ff (hx : x = hf a) (hy : y = hf b) (ha : Sm a) (hb : Sm b) (h : Q (.bool (decide (b ≤ a))) s) : wpAny (model prog w) A (compareOp .GtE (.float x t) (.float y u)) Q E s := by
  subst hx; subst hy
  refine AutoFloatOps.ge_0 ?_
  rw [hf_cmp (by omega) (by omega), cmp_ge]; exact h
theorem r_lt_fi (hx : x = hf a) (ha : Sm a) (h : Q (.bool (decide (a < 2 * n))) s) : wpAny (model prog w) A (compareOp .Lt (.float x t) (.int n u)) Q E s := by
  subst hx
  refine lt_fi ?_
  rw [hf_cmpInt (by omega), cmp_lt]; exact h
theorem r_eq_fi (hx : x = hf a) (ha : Sm a) (h : Q (.bool (decide (a = 2 * n))) s) : wpAny (model prog w) A (compareOp .Eq (.float x t) (.int n u)) Q E s := by
  subst hx
  refine eq_fi ?_
  rw [hf_cmpInt (by omega), cmp_eq]; exact h
theorem r_ne_fi (hx : x = hf a) (ha : Sm a) (h : Q (.bool (decide (a ≠ 2 * n))) s) : wpAny (model prog w) A (compareOp .NotEq (.float x t) (.int n u)) Q E s := by
  subst hx
  refine ne_fi ?_
  rw [hf_cmpInt (by omega), cmp_ne]; exact h
/-- remainder and quotient by a positive int, as omega reads them -/
theorem r_mod_ii (h0 : 0 < b) (h : Q (.int (a % b) s.toks) { s with toks := s.toks + 1 }) : wpAny (model prog w) A (binaryOp .Mod (.int a t) (.int b u)) Q E s :=
  mod_int' (by omega) (by rw [Int.fmod_eq_emod_of_nonneg _ (by omega)]; exact h)
end
end Mine

namespace Mine
set_option exponentiation.threshold 3000
open PySem PySem.Float64 PySem.W PyProof.Rows
section
variable {prog : Program} {w : World} {A : Around} {E : Value → Shared → Prop} {s : Shared} {t u : Tok} {Q : Value → Shared → Prop} {a b : Int}
theorem r_divmod {h₀ : Heap} {L : Addr} {m : Str → Option Value} {news : List (Addr × Obj)} (F : Fr h₀ L s.heap m) (N : News h₀ L s.heap news) (hb : 0 < b)
    (h : ∀ (q r : Int) h', q = a / b → r = a % b → Fr h₀ L h' m → News h₀ L h' ((s.heap.objs.size, { cls := .type "tuple", data := .seq #[.int q s.toks, .int r (s.toks + 1)] }) :: news) →
      Q (.ref s.heap.objs.size) { s with toks := s.toks + 1 + 1, heap := h' })
    (hp : Builtin.divisionGoesByPylong a b = false ∨ PySem.PylongRoom (model prog w) A s) :
    wpAny (model prog w) A (call (.builtin "divmod") [.int a t, .int b u]) Q E s := by
  refine divmod_N F N (by omega) (fun h' F' N' => ?_) hp
  rw [Int.fdiv_eq_ediv_of_nonneg _ (by omega), Int.fmod_eq_emod_of_nonneg _ (by omega)] at N'
  exact h _ _ h' rfl rfl F' N'
end
end Mine

namespace Mine
set_option exponentiation.threshold 3000
open PySem PySem.Float64 PySem.W PyProof.Rows
section
variable {prog : Program} {w : World} {A : Around} {E : Value → Shared → Prop} {s : Shared} {t u : Tok} {Q : Value → Shared → Prop} {a b : Int}
theorem r_fdiv_ii (hA : A.handled = none) (h0 : 0 < b) (hp : Builtin.divisionGoesByPylong a b = false ∨ PySem.PylongRoom (model prog w) A s) (h : Q (.int (a / b) s.toks) { s with toks := s.toks + 1 }) :
    wpAny (model prog w) A (binaryOp .FloorDiv (.int a t) (.int b u)) Q E s :=
  floordiv_int_or hA (fun e => absurd e (by omega)) (fun _ => by rw [Int.fdiv_eq_ediv_of_nonneg _ (by omega)]; exact h) (fun _ => hp)
end
end Mine
namespace Mine
open PySem PySem.Float64 PySem.W PyProof.Rows PySem.Calls

/-- a call of the def at f with these arguments comes back with R, all that stood stands as it stood, and P is told -/
def Gives (prog : Program) (w : World) (K : Frag) (p : Program) (loose : List Str) (mean : ExcName → Option Value) (mg mb : Str → Option Value) (lv : Nat) (f : Addr) (vs : List Value) (P : Prop) (R : Tok → Value) : Prop :=
  ∀ (dp un : Nat) (gd : Option (List Code)) (cn : Str) (cs : Scope) (a : Addr) (ccd : Value) (cl : List (Str × Addr)) (outer : List Env) (A₀ : Around) (base h₀ : Heap) (L : Addr) (m : Str → Option Value) (s : Shared) (Q E : Value → Shared → Prop),
    Below A₀ base outer h₀ → Fr h₀ L s.heap m → K.In h₀ → Top p loose mean mg mb h₀ → cs.kind = .function →
    dp + lv < recursionLimit → un + 8 * lv < cLine →
    (∀ (t : Tok) (h' : Heap) (tk' : Nat), (∀ b o, s.heap.get? b = some o → h'.get? b = some o) → P → Q (R t) { s with heap := h', toks := tk' }) →
    wpAny (model prog w) (ktrTop dp un gd cn cs L a ccd cl outer) (call (.ref f) vs) Q E s

section
variable {prog : Program} {w : World} {K : Frag} {p : Program} {loose : List Str} {mean : ExcName → Option Value} {mg mb : Str → Option Value} {lv : Nat} {f : Addr} {vs : List Value} {P : Prop} {R : Tok → Value}
  {dp un : Nat} {gd : Option (List Code)} {cn : Str} {cs : Scope} {a : Addr} {ccd : Value} {cl : List (Str × Addr)} {outer : List Env} {A₀ : Around} {base h₀ : Heap} {L : Addr} {m : Str → Option Value} {news : List (Addr × Obj)} {s : Shared} {Q E : Value → Shared → Prop}
theorem Gives.use (C : Gives prog w K p loose mean mg mb lv f vs P R) (B : Below A₀ base outer h₀) (F : Fr h₀ L s.heap m) (X : K.In h₀) (N : News h₀ L s.heap news) (T : Top p loose mean mg mb h₀) (hk : cs.kind = .function)
    (hd : dp + lv < recursionLimit) (hu : un + 8 * lv < cLine)
    (ret : ∀ (t : Tok) (h' : Heap) (tk' : Nat), Fr h₀ L h' m → News h₀ L h' news → (∀ b o, s.heap.get? b = some o → h'.get? b = some o) → P → Q (R t) { s with heap := h', toks := tk' }) :
    wpAny (model prog w) (ktrTop dp un gd cn cs L a ccd cl outer) (call (.ref f) vs) Q E s :=
  C _ _ _ _ _ _ _ _ _ _ _ _ _ _ _ _ _ B F X T hk hd hu fun t h' tk' st p => ret t h' tk' (F.keeps st) (News.grown N st) st p
theorem g_end {g h' : Heap} {L' : Addr} {m' : Str → Option Value} {tk' : Nat} {v : Value} (hret : ∀ (t : Tok) (h' : Heap) (tk' : Nat), (∀ b o, s.heap.get? b = some o → h'.get? b = some o) → P → Q (R t) { s with heap := h', toks := tk' }) (t : Tok) (e : v = R t)
    (G : GSub s.heap g []) (F : Fr g L' h' m') (p : P) : Q v { s with heap := h', toks := tk' } := by
  subst e
  exact hret t h' tk' (fun b o e => F.keep b o (G b o e (nomatch ·))) p
theorem InElt.then {s₂ H h' : Heap} (E : InElt s₂ H) (st : ∀ b o, H.get? b = some o → h'.get? b = some o) : InElt s₂ h' := fun b o e => st b o (E b o e)
end
end Mine
namespace Mine
open PySem PySem.Float64 PySem.W PyProof.Rows PySem.Calls

/-- the end of a turn that adds to one float name -/
def TEnd (h₀ : Heap) (L : Addr) (x nm : Str) (m₀ : Str → Option Value) (c : Int) (news : List (Addr × Obj)) (s₁ : Shared) (f : Flow) (s₂ : Shared) : Prop :=
  f = .next ∧ ∃ h' tk tc m' news', s₂ = { s₁ with heap := h', toks := tk } ∧ Fr h₀ L h' m' ∧ News h₀ L h' news' ∧ (∀ p ∈ news, p ∈ news') ∧ m' nm = some (.float (hf c) tc) ∧ ∀ z, z ≠ x → z ≠ nm → m' z = m₀ z
theorem TEnd.intro {h₀ : Heap} {L : Addr} {x nm : Str} {m₀ m' : Str → Option Value} {c : Int} {news news' : List (Addr × Obj)} {s₁ : Shared} {h' : Heap} {tk : Nat} (F : Fr h₀ L h' m') (N : News h₀ L h' news') (hs : ∀ p ∈ news, p ∈ news')
    (hv : ∃ tc, m' nm = some (.float (hf c) tc)) (hr : ∀ z, z ≠ x → z ≠ nm → m' z = m₀ z) : TEnd h₀ L x nm m₀ c news s₁ .next { s₁ with heap := h', toks := tk } :=
  let ⟨tc, hv⟩ := hv
  ⟨rfl, h', tk, tc, m', news', rfl, F, N, hs, hv, hr⟩

section
variable {prog : Program} {w : World} {A : Around} {E : Value → Shared → Prop} {s : Shared} {env : Env} {h₀ : Heap} {x nm : Str} {body : List Stmt} {Q : Flow → Shared → Prop}
theorem jd_range {r : Addr} {a₀ b₀ : Int} {t₀ u₀ v₀ : Tok} {m₀ : Str → Option Value} {news : List (Addr × Obj)} {y : UInt64} {z : Int} {tz : Tok} (g : Int → Int)
    (hh : A.handled = none) (hr : IsRange s.heap r a₀ b₀ 1 t₀ u₀ v₀) (hsmall : Builtin.Range.small a₀ b₀ 1 = true) (F : Fr h₀ env.locals s.heap m₀) (N : News h₀ env.locals s.heap news)
    (hk : m₀ nm = some (.float y tz)) (hy : y = hf z) (hx : nm ≠ x) (hn : (b₀ - a₀).toNat ≤ 13) (hg : ∀ k, 29 ≤ g k ∧ g k ≤ 30)
    (turn : ∀ (c k : Int) (t tc : Tok) (h : Heap) (tk : Nat) (own : List (Addr × Obj)), a₀ ≤ k → k < b₀ → z ≤ c → c ≤ z + 780 →
      Fr h₀ env.locals h (fun v => if v = x then some (.int k t) else if v = nm then some (.float (hf c) tc) else m₀ v) → News h₀ env.locals h (news ++ own) →
      wpAny (model prog w) A (execs body env) (TEnd h₀ env.locals x nm m₀ (c + 2 * g k) (news ++ own) { s with heap := h, toks := tk }) E { s with heap := h, toks := tk })
    (done : ∀ (u : Option Value) (h : Heap) (tk : Nat) (tc : Tok) (S : Int), S = ((rangeKs a₀ (b₀ - a₀).toNat).map g).sum → 0 ≤ S → S ≤ 390 → Fr h₀ env.locals h (fun v => if v = x then u else if v = nm then some (.float (hf (z + 2 * S)) tc) else m₀ v) → News h₀ env.locals h news → Q .next { s with heap := h, toks := tk }) :
    wpAny (model prog w) A (pyIter (.ref r)) (fun it s₂ => LoopAtV prog w A h₀ env x body Q E it s₂) E s := by
  subst hy
  refine kst_range (σ := Int × Tok) (fun _ => news) (fun c => [(nm, .float (hf c.1) c.2)]) (fun _ => True) [] (fun pre c => c.1 = z + 2 * (pre.map g).sum ∧ 0 ≤ (pre.map g).sum ∧ (pre.map g).sum ≤ 30 * (pre.length : Int)) (z, tz)
    hh hr hsmall (rangeSize_nat _ _) F N trivial (fun p hp => by rw [List.mem_singleton.mp hp]; exact hk) (by simp) ?_ ?_
  · rintro ⟨c, tc⟩ pre k t u h tk own hk' hlt _ _ ⟨hc, hs0, hs1⟩ F₁ N₁
    dsimp only at hc F₁
    have hb := hg k
    refine wpAny_mono (turn c k t tc h tk own (by omega) (by omega) (by omega) (by omega) F₁ N₁) (fun f s₂ q => ?_) fun _ _ e => e
    obtain ⟨rfl, h', tk', tc', m', news', rfl, F', N', hs, hv, hr'⟩ := q
    refine InvEndN.intro F' N' (nx := news) ⟨(c + 2 * g k, tc'), rfl, trivial, fun p hp => by rw [List.mem_singleton.mp hp]; exact hv, fun v hv1 hv2 _ => hr' v hv1 (hv2 _ (.head _)), ?_⟩ rfl (fun p hp => hs p (List.mem_append_left _ hp)) (fun p hp => hs p (List.mem_append_right _ hp))
    dsimp only
    rw [List.map_append, List.sum_append]
    simp only [List.map_cons, List.map_nil, List.sum_cons, List.sum_nil, List.length_append, List.length_cons, List.length_nil]
    omega
  · rintro ⟨c, tc⟩ u h tk _ ⟨hc, hs0, hs1⟩ F₁ N₁
    dsimp only at hc F₁
    rw [rangeKs_length] at hs1
    refine done (u x) h tk tc _ rfl hs0 (by omega) ?_ N₁
    have e : (fun y => if y = x then u y else kstB (fun z => if ([] : List Str).contains z then u z else m₀ z) [(nm, .float (hf c) tc)] y) = fun v => if v = x then u x else if v = nm then some (.float (hf (z + 2 * ((rangeKs a₀ (b₀ - a₀).toNat).map g).sum)) tc) else m₀ v := by
      funext v
      rw [← hc]
      by_cases h1 : v = x
      · rw [if_pos h1, if_pos h1, h1]
      · rw [if_neg h1, if_neg h1]
        rfl
    rw [← e]
    exact F₁
end
end Mine

namespace Mine
open PySem PySem.Float64 PySem.W PyProof.Rows PySem.Calls
/-- the items of a made list of pairs of ints -/
inductive Rows (news : List (Addr × Obj)) : List Value → List (Int × Int) → Prop
  | nil : Rows news [] []
  | cons {T : Addr} {t1 t2 : Tok} {nn : Nat} {a b : Int} {vs : List Value} {ps : List (Int × Int)} : (T, ({ cls := .type "tuple", data := .seq #[.int a t1, .int b t2] nn } : Obj)) ∈ news → Rows news vs ps → Rows news (.ref T :: vs) ((a, b) :: ps)

/-- the end of a turn: the letter's int is c' with P c' of what is left -/
def REnd (h₀ : Heap) (L : Addr) (nm x1 x2 : Str) (m₀ : Str → Option Value) (P : Int → Prop) (news : List (Addr × Obj)) (s₁ : Shared) (Q : Flow → Shared → Prop) (f : Flow) (s₂ : Shared) : Prop :=
  match f with
  | .ret v => Q (.ret v) s₂
  | .brk => Q .next s₂
  | _ => ∃ h' tk c tc m' news', s₂ = { s₁ with heap := h', toks := tk } ∧ Fr h₀ L h' m' ∧ News h₀ L h' news' ∧ (∀ p ∈ news, p ∈ news') ∧ m' nm = some (.int c tc) ∧ P c ∧ ∀ z, z ≠ nm → z ≠ x1 → z ≠ x2 → m' z = m₀ z
theorem REnd.intro {h₀ : Heap} {L : Addr} {nm x1 x2 : Str} {m₀ m' : Str → Option Value} {P : Int → Prop} {news news' : List (Addr × Obj)} {s₁ : Shared} {h' : Heap} {tk : Nat} {Q : Flow → Shared → Prop} (c : Int) (F : Fr h₀ L h' m') (N : News h₀ L h' news') (hs : ∀ p ∈ news, p ∈ news')
    (hv : ∃ tc, m' nm = some (.int c tc)) (hp : P c) (hr : ∀ z, z ≠ nm → z ≠ x1 → z ≠ x2 → m' z = m₀ z) : REnd h₀ L nm x1 x2 m₀ P news s₁ Q .next { s₁ with heap := h', toks := tk } :=
  let ⟨tc, hv⟩ := hv
  ⟨h', tk, c, tc, m', news', rfl, F, N, hs, hv, hp, hr⟩

section
variable {prog : Program} {w : World} {A : Around} {E : Value → Shared → Prop} {s : Shared} {env : Env} {h₀ : Heap} {nm x1 x2 : Str} {target : Expr} {body : List Stmt} {Q : Flow → Shared → Prop}
def rowM (nm x1 x2 : Str) (m₀ u : Str → Option Value) (c : Int) (tc : Tok) : Str → Option Value := fun v => if v = nm then some (.int c tc) else if v = x1 then u x1 else if v = x2 then u x2 else m₀ v
theorem rowM_eq {m₀ m : Str → Option Value} {c : Int} {tc : Tok} (h1 : m nm = some (.int c tc)) (h2 : ∀ z, z ≠ nm → z ≠ x1 → z ≠ x2 → m z = m₀ z) : m = rowM nm x1 x2 m₀ m c tc := by
  funext v
  unfold rowM
  by_cases e : v = nm
  · rw [if_pos e, e, h1]
  · rw [if_neg e]
    by_cases e1 : v = x1
    · rw [if_pos e1, e1]
    · rw [if_neg e1]
      by_cases e2 : v = x2
      · rw [if_pos e2, e2]
      · rw [if_neg e2, h2 v e e1 e2]
theorem row_loop {ax : Addr} {lo : Obj} {vs : List Value} {n : Nat} {m₀ : Str → Option Value} {news : List (Addr × Obj)} {ps : List (Int × Int)} {c₀ : Int} {t₀ : Tok} (P : Int → List (Int × Int) → Prop)
    (hh : A.handled = none) (F : Fr h₀ env.locals s.heap m₀) (N : News h₀ env.locals s.heap news) (hm : (ax, lo) ∈ news) (hc : lo.cls = .type "list") (hd : lo.data = .seq vs.toArray n) (hr : Rows news vs ps)
    (hk : m₀ nm = some (.int c₀ t₀)) (hp : P c₀ ps)
    (turn : ∀ (c : Int) (tc : Tok) (a b : Int) (r : List (Int × Int)) (u : Str → Option Value) (T : Addr) (t1 t2 : Tok) (h : Heap) (tk : Nat) (own : List (Addr × Obj)), P c ((a, b) :: r) → IsTup h T #[.int a t1, .int b t2] →
      Fr h₀ env.locals h (fun v => if v = nm then some (.int c tc) else if v = x1 then u x1 else if v = x2 then u x2 else m₀ v) → News h₀ env.locals h (own ++ news) →
      wpAny (model prog w) A (assign target env (.ref T)) (fun _ s₂ => wpAny (model prog w) A (execs body env) (REnd h₀ env.locals nm x1 x2 m₀ (fun c' => P c' r) (own ++ news) { s with heap := h, toks := tk } Q) E s₂) E { s with heap := h, toks := tk })
    (done : ∀ (c : Int) (tc : Tok) (u : Str → Option Value) (h : Heap) (tk : Nat), P c [] → Fr h₀ env.locals h (fun v => if v = nm then some (.int c tc) else if v = x1 then u x1 else if v = x2 then u x2 else m₀ v) → News h₀ env.locals h news → Q .next { s with heap := h, toks := tk }) :
    wpAny (model prog w) A (pyIter (.ref ax)) (fun it s₂ => TurnsAt prog w A h₀ env target body Q E it s₂) E s := by
  refine iter_listTurns hh F N hm hc hd fun I hI => ?_
  have all : ∀ (vs : List Value) (ps : List (Int × Int)) (c : Int) (tc : Tok) (m : Str → Option Value), Rows news vs ps → m nm = some (.int c tc) → P c ps → (∀ z, z ≠ nm → z ≠ x1 → z ≠ x2 → m z = m₀ z) →
      ItemsRest prog w A E h₀ env target body Q s [(I, "list_iterator")] [(ax, lo)] (vs.map .val) m news := by
    intro vs
    induction vs with
    | nil =>
      intro ps c tc m hR hv hP hz
      cases hR
      refine ItemsRest.zero fun h tk F' N' => done c tc m h tk hP ?_ N'
      have e := rowM_eq hv hz
      unfold rowM at e
      rw [← e]
      exact F'
    | cons v r ih =>
      intro ps c tc m hR hv hP hz
      cases hR with
      | @cons T t1 t2 nn a b _ ps hT hR =>
        refine ItemsRest.val fun h tk F' => AllObj.cons fun it hit => AllObj.nil fun N' => ?_
        have hN := (N' _ (List.mem_append_right _ hT)).1
        have e := rowM_eq hv hz
        unfold rowM at e
        refine wpAny_mono (turn c tc a b ps m T t1 t2 h tk [(I, it)] hP ⟨_, hN, rfl, nn, rfl⟩ (by rw [← e]; exact F') N') (fun _ s₂ q => wpAny_mono q (fun f s₃ q => ?_) fun _ _ e => e) fun _ _ e => e
        have go : ∀ s₃, (∃ h' tk' c tc m' news', s₃ = { s with heap := h', toks := tk' } ∧ Fr h₀ env.locals h' m' ∧ News h₀ env.locals h' news' ∧ (∀ p ∈ [(I, it)] ++ news, p ∈ news') ∧ m' nm = some (.int c tc) ∧ P c ps ∧ ∀ z, z ≠ nm → z ≠ x1 → z ≠ x2 → m' z = m₀ z) →
            UnrEndW h₀ env.locals { s with heap := h, toks := tk } [(I, it)] (fun m' n' => SubL [(ax, lo)] n' ∧ ItemsRest prog w A E h₀ env target body Q s [(I, "list_iterator")] [(ax, lo)] (r.map .val) m' n') s₃ := by
          rintro s₃ ⟨h', tk', c', tc', m', news', rfl, F2, N2, hs, hv', hP', hz'⟩
          exact ⟨h', tk', m', news, rfl, F2, fun p hp => N2 p (hs p hp), fun p hp q hq => by rw [List.mem_singleton.mp hq]; exact Nat.ne_of_lt (hI p hp), ⟨hm, trivial⟩, ih ps c' tc' m' hR hv' hP' hz'⟩
        cases f with
        | ret v => exact q
        | brk => exact q
        | next => exact go s₃ q
        | cont => exact go s₃ q
  exact all vs ps c₀ t₀ m₀ hr hk hp fun _ _ _ _ => rfl
end
end Mine

namespace Mine
open PySem PySem.Float64 PySem.W PyProof.Rows PySem.Calls
theorem Rows.mono {news news' : List (Addr × Obj)} {vs : List Value} {ps : List (Int × Int)} (h : Rows news vs ps) (hs : ∀ p ∈ news, p ∈ news') : Rows news' vs ps := by
  induction h with
  | nil => exact .nil
  | cons hm _ ih => exact .cons (hs _ hm) ih
/-- a call of the def at f comes back with a new list of new pairs of ints -/
def GivesRow (prog : Program) (w : World) (K : Frag) (p : Program) (loose : List Str) (mean : ExcName → Option Value) (mg mb : Str → Option Value) (lv : Nat) (f : Addr) (vs : List Value) (ps : List (Int × Int)) : Prop :=
  ∀ (dp un : Nat) (gd : Option (List Code)) (cn : Str) (cs : Scope) (a : Addr) (ccd : Value) (cl : List (Str × Addr)) (outer : List Env) (A₀ : Around) (base h₀ : Heap) (L : Addr) (m : Str → Option Value) (s : Shared) (Q E : Value → Shared → Prop),
    Below A₀ base outer h₀ → Fr h₀ L s.heap m → K.In h₀ → Top p loose mean mg mb h₀ → cs.kind = .function →
    dp + lv < recursionLimit → un + 8 * lv < cLine →
    (∀ (ax : Addr) (lo : Obj) (ws : List Value) (n : Nat) (tl : List (Addr × Obj)) (h' : Heap) (tk' : Nat), (∀ b o, s.heap.get? b = some o → h'.get? b = some o) → News h₀ L h' tl → (ax, lo) ∈ tl → lo.cls = .type "list" → lo.data = .seq ws.toArray n → Rows tl ws ps → Q (.ref ax) { s with heap := h', toks := tk' }) →
    wpAny (model prog w) (ktrTop dp un gd cn cs L a ccd cl outer) (call (.ref f) vs) Q E s
section
variable {prog : Program} {w : World} {K : Frag} {p : Program} {loose : List Str} {mean : ExcName → Option Value} {mg mb : Str → Option Value} {lv : Nat} {f : Addr} {vs : List Value} {ps : List (Int × Int)}
  {dp un : Nat} {gd : Option (List Code)} {cn : Str} {cs : Scope} {a : Addr} {ccd : Value} {cl : List (Str × Addr)} {outer : List Env} {A₀ : Around} {base h₀ : Heap} {L : Addr} {m : Str → Option Value} {news : List (Addr × Obj)} {s : Shared} {Q E : Value → Shared → Prop}
theorem GivesRow.use (C : GivesRow prog w K p loose mean mg mb lv f vs ps) (B : Below A₀ base outer h₀) (F : Fr h₀ L s.heap m) (X : K.In h₀) (N : News h₀ L s.heap news) (T : Top p loose mean mg mb h₀) (hk : cs.kind = .function)
    (hd : dp + lv < recursionLimit) (hu : un + 8 * lv < cLine)
    (ret : ∀ (ax : Addr) (lo : Obj) (ws : List Value) (n : Nat) (tl : List (Addr × Obj)) (h' : Heap) (tk' : Nat), Fr h₀ L h' m → News h₀ L h' (tl ++ news) → (ax, lo) ∈ tl ++ news → lo.cls = .type "list" → lo.data = .seq ws.toArray n → Rows (tl ++ news) ws ps → Q (.ref ax) { s with heap := h', toks := tk' }) :
    wpAny (model prog w) (ktrTop dp un gd cn cs L a ccd cl outer) (call (.ref f) vs) Q E s :=
  C _ _ _ _ _ _ _ _ _ _ _ _ _ _ _ _ _ B F X T hk hd hu fun ax lo ws n tl h' tk' st N' hm hc hd hr => ret ax lo ws n tl h' tk' (F.keeps st) (fun p hp => (List.mem_append.mp hp).elim (N' p) (News.grown N st p)) (List.mem_append_left _ hm) hc hd (hr.mono fun _ h => List.mem_append_left _ h)
theorem row_end {g h' : Heap} {L' : Addr} {m' : Str → Option Value} {tk' : Nat} {ax : Addr} {lo : Obj} {ws : List Value} {n : Nat} {tl : List (Addr × Obj)}
    (hret : ∀ (ax : Addr) (lo : Obj) (ws : List Value) (n : Nat) (tl : List (Addr × Obj)) (h' : Heap) (tk' : Nat), (∀ b o, s.heap.get? b = some o → h'.get? b = some o) → News h₀ L h' tl → (ax, lo) ∈ tl → lo.cls = .type "list" → lo.data = .seq ws.toArray n → Rows tl ws ps → Q (.ref ax) { s with heap := h', toks := tk' })
    (G : GSub s.heap g []) (F : Fr g L' h' m') (N : News h₀ L h' tl) (hm : (ax, lo) ∈ tl) (hc : lo.cls = .type "list") (hd : lo.data = .seq ws.toArray n) (hr : Rows tl ws ps) : Q (.ref ax) { s with heap := h', toks := tk' } :=
  hret ax lo ws n tl h' tk' (fun b o e => F.keep b o (G b o e (nomatch ·))) N hm hc hd hr
end
end Mine
namespace Mine
open PySem PySem.W PyProof.Rows PySem.Calls
theorem fills_list_iadd : fillsInplaceSlot (.type "list") "add" true = pure false := by
  unfold fillsInplaceSlot
  show (typeLookup (.type "list") (dunderI "add") >>= fun fi => pure (fi.isSome && !isSeqSlot fi)) = pure false
  rw [F.slot_list_iadd.lookup, pure_bind]
  have e : isSeqSlot (some (.builtin "list.__iadd__")) = true := by decide +kernel
  rw [e]
  rfl
theorem seq_list_iadd : seqSlot? (.type "list") (dunderI "add") = pure (some (.builtin "list.__iadd__")) := PySem.seqSlot_of F.slot_list_iadd.lookup (by decide +kernel)
section
variable {prog : Program} {w : World} {A : Around} {E : Value → Shared → Prop} {s : Shared}
theorem iadd_list {l b : Addr} {its its2 : Array Value} {n n2 : Nat} {Q : Value → Shared → Prop} (hl : IsL s.heap l its n) (hb : IsL s.heap b its2 n2)
    (h : Q (.ref l) { s with heap := s.heap.update l (Obj.mapSeq fun x => x ++ its2) }) (hsz : its.size + its2.size ≤ sizeLine) : wpAny (model prog w) A (inplaceOp .Add (.ref l) (.ref b)) Q E s := by
  have ha : s.TypeIs (.ref l) "list" := ⟨_, hl, rfl⟩
  have hb' : s.TypeIs (.ref b) "list" := ⟨_, hb, rfl⟩
  unfold inplaceOp
  try with_reducible refine wpAny_holding ?_
  refine wpAny_bind (wpAny_typeOf ha (wpAny_bind (wpAny_of_eq fills_list_iadd ?_)))
  show wpAny _ A (if false = true then _ else _) Q E s
  rw [if_neg Bool.false_ne_true]
  refine wpAny_bind (wpAny_binaryOp1_none ha hb' noFill_list_add ?_)
  show wpAny _ A (seqSlot? (.type "list") (dunderI "add") >>= _) Q E s
  refine wpAny_bind (wpAny_of_eq seq_list_iadd ?_)
  exact wpAny_bind (wpAny_rule (call_meets (Q := Q) F.slot_list_iadd ha F.entry_list_iadd (F.args_list_iadd_2 _ _) (AutoSeq1.list___iadd___list_list_0 l its n b its2 n2 (extend_door hsz) (Nat.le_trans (Nat.le_add_right _ _) hsz) (Nat.le_trans hsz (Nat.le_succ _))) ⟨hl, hb, h⟩))
theorem iadd_in {h₀ : Heap} {L : Addr} {m : Str → Option Value} {D b : Addr} {ys zs : List Value} {n n2 : Nat} {news news' : List (Addr × Obj)} {Q : Value → Shared → Prop}
    (F : Fr h₀ L s.heap m) (N : News h₀ L s.heap news) (hm : (D, ({ cls := .type "list", data := .seq ys.toArray n } : Obj)) ∈ news)
    (hb : (b, ({ cls := .type "list", data := .seq zs.toArray n2 } : Obj)) ∈ news) (hsz : ys.length + zs.length ≤ sizeLine)
    (hU : Upd D ({ cls := .type "list", data := .seq ys.toArray n } : Obj) ({ cls := .type "list", data := .seq (ys ++ zs).toArray (if (ys.toArray ++ zs.toArray).size == ys.toArray.size then n else n + 1) } : Obj) news news')
    (h : ∀ h', Fr h₀ L h' m → News h₀ L h' news' → Q (.ref D) { s with heap := h' }) :
    wpAny (model prog w) A (inplaceOp .Add (.ref D) (.ref b)) Q E s := by
  have hD := N _ hm
  have hB := N _ hb
  refine iadd_list hD.1 hB.1 ?_ (by rw [List.size_toArray, List.size_toArray]; exact hsz)
  have e : ys.toArray ++ zs.toArray = (ys ++ zs).toArray := by simp
  have ho' : (s.heap.update D (Obj.mapSeq fun x => x ++ zs.toArray)).get? D = some { cls := .type "list", data := .seq (ys ++ zs).toArray (if (ys.toArray ++ zs.toArray).size == ys.toArray.size then n else n + 1) } := by
    rw [Heap.get?_update_self _ hD.1 (by rw [mapSeq_app]; rfl), mapSeq_app, e]
  refine h _ (F.change (Heap.SameBut.update ..) hD.2.1 hD.2.2) ?_
  obtain ⟨pre, post, rfl, rfl, h1, h2⟩ := hU.split
  have oth : ∀ p : Addr × Obj, p.1 ≠ D → (s.heap.update D (Obj.mapSeq fun x => x ++ zs.toArray)).get? p.1 = s.heap.get? p.1 := fun p hne => Heap.get?_update_other _ _ (Ne.symm hne)
  intro p hp
  rcases List.mem_append.mp hp with hp | hp
  · exact ⟨(oth p (h1 p hp)).trans (N p (List.mem_append_left _ hp)).1, (N p (List.mem_append_left _ hp)).2⟩
  · rcases List.mem_cons.mp hp with rfl | hp
    · exact ⟨ho', hD.2.1, hD.2.2⟩
    · have hp' : p ∈ pre ++ (D, ({ cls := .type "list", data := .seq ys.toArray n } : Obj)) :: post := List.mem_append_right _ (List.mem_cons_of_mem _ hp)
      exact ⟨(oth p (h2 p hp)).trans (N p hp').1, (N p hp').2⟩
end
end Mine

namespace Mine
open PySem PySem.W PyProof.Rows PySem.Calls
/-- where the ways of an expression meet in one int -/
def Meet (h₀ : Heap) (L : Addr) (m : Str → Option Value) (news : List (Addr × Obj)) (s : Shared) (P : Int → Prop) (v : Value) (s' : Shared) : Prop :=
  ∃ yr t h' tk', v = .int yr t ∧ s' = { s with heap := h', toks := tk' } ∧ Fr h₀ L h' m ∧ News h₀ L h' news ∧ P yr
theorem Meet.intro {h₀ : Heap} {L : Addr} {m : Str → Option Value} {news : List (Addr × Obj)} {s : Shared} {P : Int → Prop} {yr : Int} {t : Tok} {h' : Heap} {tk' : Nat} (F : Fr h₀ L h' m) (N : News h₀ L h' news) (p : P yr) : Meet h₀ L m news s P (.int yr t) { s with heap := h', toks := tk' } :=
  ⟨yr, t, h', tk', rfl, rfl, F, N, p⟩
section
variable {M : Model} {A : Around} {E : Value → Shared → Prop} {s : Shared} {h₀ : Heap} {L : Addr} {m : Str → Option Value} {news : List (Addr × Obj)} {tr : Sem Value} {Q : Value → Shared → Prop}
theorem meet_at (P : Int → Prop) (_F : Fr h₀ L s.heap m) (_N : News h₀ L s.heap news) (part : wpAny M A tr (Meet h₀ L m news s P) E s)
    (cont : ∀ (yr : Int) (t : Tok) (h' : Heap) (tk' : Nat), P yr → Fr h₀ L h' m → News h₀ L h' news → Q (.int yr t) { s with heap := h', toks := tk' }) : wpAny M A tr Q E s :=
  wpAny_mono part (fun v s' q => by
    obtain ⟨yr, t, h', tk', rfl, rfl, F', N', p⟩ := q
    exact cont yr t h' tk' p F' N') fun _ _ e => e
end
end Mine

namespace Mine
open PySem PySem.W PyProof.Rows PySem.Calls
structure MMark : Prop where
  mk :: (one : True)
theorem mmark : MMark := ⟨trivial⟩
end Mine
namespace Mine
open PySem PySem.Float64 PySem.W PyProof.Rows PySem.Calls

/-- the end of a turn of a while that turns two ints -/
def WEnd (h₀ : Heap) (L : Addr) (n1 n2 : Str) (m₀ : Str → Option Value) (P : Int → Int → Prop) (μ : Int → Int → Nat) (k : Nat) (news : List (Addr × Obj)) (s₁ : Shared) (f : Flow) (s₂ : Shared) : Prop :=
  f = .next ∧ ∃ h' tk c d tc td m' news', s₂ = { s₁ with heap := h', toks := tk } ∧ Fr h₀ L h' m' ∧ News h₀ L h' news' ∧ (∀ p ∈ news, p ∈ news') ∧ m' n1 = some (.int c tc) ∧ m' n2 = some (.int d td) ∧ P c d ∧ μ c d < k ∧ ∀ z, z ≠ n1 → z ≠ n2 → m' z = m₀ z
theorem WEnd.intro {h₀ : Heap} {L : Addr} {n1 n2 : Str} {m₀ m' : Str → Option Value} {P : Int → Int → Prop} {μ : Int → Int → Nat} {k : Nat} {news news' : List (Addr × Obj)} {s₁ : Shared} {h' : Heap} {tk : Nat} (c d : Int) (F : Fr h₀ L h' m') (N : News h₀ L h' news') (hs : ∀ p ∈ news, p ∈ news')
    (hv : ∃ tc, m' n1 = some (.int c tc)) (hw : ∃ td, m' n2 = some (.int d td)) (hp : P c d) (hm : μ c d < k) (hr : ∀ z, z ≠ n1 → z ≠ n2 → m' z = m₀ z) : WEnd h₀ L n1 n2 m₀ P μ k news s₁ .next { s₁ with heap := h', toks := tk } :=
  let ⟨tc, hv⟩ := hv
  let ⟨td, hw⟩ := hw
  ⟨rfl, h', tk, c, d, tc, td, m', news', rfl, F, N, hs, hv, hw, hp, hm, hr⟩
def twoM (n1 n2 : Str) (m₀ : Str → Option Value) (c d : Int) (tc td : Tok) : Str → Option Value := fun v => if v = n1 then some (.int c tc) else if v = n2 then some (.int d td) else m₀ v
theorem twoM_eq {n1 n2 : Str} {m₀ m : Str → Option Value} {c d : Int} {tc td : Tok} (h1 : m n1 = some (.int c tc)) (h2 : m n2 = some (.int d td)) (h3 : ∀ z, z ≠ n1 → z ≠ n2 → m z = m₀ z) : m = twoM n1 n2 m₀ c d tc td := by
  funext v
  unfold twoM
  by_cases e : v = n1
  · rw [if_pos e, e, h1]
  · rw [if_neg e]
    by_cases e1 : v = n2
    · rw [if_pos e1, e1, h2]
    · rw [if_neg e1, h3 v e e1]
section
variable {prog : Program} {w : World} {A : Around} {E : Value → Shared → Prop} {s : Shared} {env : Env} {h₀ : Heap} {L : Addr} {n1 n2 : Str} {Q : Flow → Shared → Prop}
theorem while2 {test : Expr} {body : List Stmt} {pos : Pos} {m₀ : Str → Option Value} {news : List (Addr × Obj)} {c₀ d₀ : Int} {tc₀ td₀ : Tok} (P : Int → Int → Prop) (μ : Int → Int → Nat)
    (F : Fr h₀ L s.heap m₀) (N : News h₀ L s.heap news) (h1 : m₀ n1 = some (.int c₀ tc₀)) (h2 : m₀ n2 = some (.int d₀ td₀)) (hp : P c₀ d₀)
    (turn : ∀ (c d : Int) (tc td : Tok) (h : Heap) (tk : Nat), P c d → Fr h₀ L h (fun v => if v = n1 then some (.int c tc) else if v = n2 then some (.int d td) else m₀ v) → News h₀ L h news →
      wpAny (model prog w) A (isTrue test env (eval test env)) (fun b s₂ =>
        if b = true then wpAny (model prog w) A (execs body env) (WEnd h₀ L n1 n2 m₀ P μ (μ c d) news { s with heap := h, toks := tk }) E s₂ else Q .next s₂) E { s with heap := h, toks := tk })
    (hE : PassesOwn (model prog w) A env E := by passes_own) :
    wpAny (model prog w) A (exec (.While test body [] pos) env) Q E s := by
  refine While_inv2 (fun n m nx => nx = news ∧ ∃ c d tc td, μ c d = n ∧ m n1 = some (.int c tc) ∧ m n2 = some (.int d td) ∧ (∀ z, z ≠ n1 → z ≠ n2 → m z = m₀ z) ∧ P c d) F N ⟨rfl, c₀, d₀, tc₀, td₀, rfl, h1, h2, fun _ _ _ => rfl, hp⟩ ?_ hE
  rintro n m₁ nx h tk F₁ N₁ ⟨rfl, c, d, tc, td, rfl, g1, g2, g3, hP⟩
  have e := twoM_eq g1 g2 g3
  unfold twoM at e
  rw [e] at F₁
  refine wpAny_mono (turn c d tc td h tk hP F₁ N₁) (fun b s₂ p => ?_) fun _ _ x => x
  cases b with
  | false => simpa using p
  | true =>
    simp only [if_true] at p ⊢
    refine wpAny_mono p (fun f s₃ q => ?_) fun _ _ x => x
    obtain ⟨rfl, h', tk', c', d', tc', td', m', news', rfl, F', N', hn, q1, q2, q3, q4, q5⟩ := q
    exact ⟨h', tk', m', nx, μ c' d', rfl, F', fun p hp => N' p (hn p hp), q4, rfl, c', d', tc', td', rfl, q1, q2, q5, q3⟩
end

/-- the end of a turn of a for that turns two ints -/
def R2End (h₀ : Heap) (L : Addr) (x n1 n2 : Str) (m₀ : Str → Option Value) (P : Int → Int → Prop) (news : List (Addr × Obj)) (s₁ : Shared) (f : Flow) (s₂ : Shared) : Prop :=
  f = .next ∧ ∃ h' tk c d tc td m' news', s₂ = { s₁ with heap := h', toks := tk } ∧ Fr h₀ L h' m' ∧ News h₀ L h' news' ∧ (∀ p ∈ news, p ∈ news') ∧ m' n1 = some (.int c tc) ∧ m' n2 = some (.int d td) ∧ P c d ∧ ∀ z, z ≠ x → z ≠ n1 → z ≠ n2 → m' z = m₀ z
theorem R2End.intro {h₀ : Heap} {L : Addr} {x n1 n2 : Str} {m₀ m' : Str → Option Value} {P : Int → Int → Prop} {news news' : List (Addr × Obj)} {s₁ : Shared} {h' : Heap} {tk : Nat} (c d : Int) (F : Fr h₀ L h' m') (N : News h₀ L h' news') (hs : ∀ p ∈ news, p ∈ news')
    (hv : ∃ tc, m' n1 = some (.int c tc)) (hw : ∃ td, m' n2 = some (.int d td)) (hp : P c d) (hr : ∀ z, z ≠ x → z ≠ n1 → z ≠ n2 → m' z = m₀ z) : R2End h₀ L x n1 n2 m₀ P news s₁ .next { s₁ with heap := h', toks := tk } :=
  let ⟨tc, hv⟩ := hv
  let ⟨td, hw⟩ := hw
  ⟨rfl, h', tk, c, d, tc, td, m', news', rfl, F, N, hs, hv, hw, hp, hr⟩
section
variable {prog : Program} {w : World} {A : Around} {E : Value → Shared → Prop} {s : Shared} {env : Env} {h₀ : Heap} {x n1 n2 : Str} {body : List Stmt} {Q : Flow → Shared → Prop}
theorem range2 {r : Addr} {a₀ b₀ : Int} {t₀ u₀ v₀ : Tok} {m₀ : Str → Option Value} {news : List (Addr × Obj)} {c₀ d₀ : Int} {tc₀ td₀ : Tok} (P : Nat → Int → Int → Prop)
    (hh : A.handled = none) (hr : IsRange s.heap r a₀ b₀ 1 t₀ u₀ v₀) (hsmall : Builtin.Range.small a₀ b₀ 1 = true) (F : Fr h₀ env.locals s.heap m₀) (N : News h₀ env.locals s.heap news)
    (h1 : m₀ n1 = some (.int c₀ tc₀)) (h2 : m₀ n2 = some (.int d₀ td₀)) (hx1 : n1 ≠ x) (hx2 : n2 ≠ x) (h12 : n2 ≠ n1) (hp : P 0 c₀ d₀)
    (turn : ∀ (j : Nat) (c d k : Int) (t tc td : Tok) (h : Heap) (tk : Nat) (own : List (Addr × Obj)), P j c d →
      Fr h₀ env.locals h (fun v => if v = x then some (.int k t) else if v = n1 then some (.int c tc) else if v = n2 then some (.int d td) else m₀ v) → News h₀ env.locals h (news ++ own) →
      wpAny (model prog w) A (execs body env) (R2End h₀ env.locals x n1 n2 m₀ (P (j + 1)) (news ++ own) { s with heap := h, toks := tk }) E { s with heap := h, toks := tk })
    (done : ∀ (u : Option Value) (c d : Int) (tc td : Tok) (h : Heap) (tk : Nat), P (b₀ - a₀).toNat c d → Fr h₀ env.locals h (fun v => if v = x then u else if v = n1 then some (.int c tc) else if v = n2 then some (.int d td) else m₀ v) → News h₀ env.locals h news → Q .next { s with heap := h, toks := tk }) :
    wpAny (model prog w) A (pyIter (.ref r)) (fun it s₂ => LoopAtV prog w A h₀ env x body Q E it s₂) E s := by
  refine kst_range (σ := (Int × Tok) × (Int × Tok)) (fun _ => news) (fun c => [(n1, .int c.1.1 c.1.2), (n2, .int c.2.1 c.2.2)]) (fun _ => True) [] (fun pre c => P pre.length c.1.1 c.2.1) ((c₀, tc₀), (d₀, td₀))
    hh hr hsmall (rangeSize_nat _ _) F N trivial (fun p hp => by rcases List.mem_cons.mp hp with rfl | hp; exact h1; rw [List.mem_singleton.mp hp]; exact h2) hp ?_ ?_
  · rintro ⟨⟨c, tc⟩, ⟨d, td⟩⟩ pre k t u h tk own hk' hlt _ _ hP F₁ N₁
    dsimp only at hP F₁
    refine wpAny_mono (turn pre.length c d k t tc td h tk own hP F₁ N₁) (fun f s₂ q => ?_) fun _ _ e => e
    obtain ⟨rfl, h', tk', c', d', tc', td', m', news', rfl, F', N', hs, hv, hw, hp', hr'⟩ := q
    refine InvEndN.intro F' N' (nx := news) ⟨((c', tc'), (d', td')), rfl, trivial, fun p hp => by rcases List.mem_cons.mp hp with rfl | hp; exact hv; rw [List.mem_singleton.mp hp]; exact hw, fun v hv1 hv2 _ => hr' v hv1 (hv2 _ (.head _)) (hv2 _ (.tail _ (.head _))), ?_⟩ rfl (fun p hp => hs p (List.mem_append_left _ hp)) (fun p hp => hs p (List.mem_append_right _ hp))
    dsimp only
    rw [List.length_append]
    exact hp'
  · rintro ⟨⟨c, tc⟩, ⟨d, td⟩⟩ u h tk _ hP F₁ N₁
    dsimp only at hP F₁
    rw [rangeKs_length] at hP
    refine done (u x) c d tc td h tk hP ?_ N₁
    have e : (fun y => if y = x then u y else kstB (fun z => if ([] : List Str).contains z then u z else m₀ z) [(n1, .int c tc), (n2, .int d td)] y) = fun v => if v = x then u x else if v = n1 then some (.int c tc) else if v = n2 then some (.int d td) else m₀ v := by
      funext v
      by_cases h1 : v = x
      · rw [if_pos h1, if_pos h1, h1]
      · rw [if_neg h1, if_neg h1]
        rfl
    rw [← e]
    exact F₁
end

/-- a call of the def at f comes back with a new tuple of three ints -/
def GivesT (prog : Program) (w : World) (K : Frag) (p : Program) (loose : List Str) (mean : ExcName → Option Value) (mg mb : Str → Option Value) (lv : Nat) (f : Addr) (vs : List Value) (P : Int → Int → Int → Prop) : Prop :=
  ∀ (dp un : Nat) (gd : Option (List Code)) (cn : Str) (cs : Scope) (a : Addr) (ccd : Value) (cl : List (Str × Addr)) (outer : List Env) (A₀ : Around) (base h₀ : Heap) (L : Addr) (m : Str → Option Value) (s : Shared) (Q E : Value → Shared → Prop),
    Below A₀ base outer h₀ → Fr h₀ L s.heap m → K.In h₀ → Top p loose mean mg mb h₀ → cs.kind = .function →
    dp + lv < recursionLimit → un + 8 * lv < cLine →
    (∀ (T : Addr) (y1 y2 y3 : Int) (t1 t2 t3 : Tok) (h' : Heap) (tk' : Nat), (∀ b o, s.heap.get? b = some o → h'.get? b = some o) → News h₀ L h' [(T, ({ cls := .type "tuple", data := .seq #[.int y1 t1, .int y2 t2, .int y3 t3] } : Obj))] → P y1 y2 y3 → Q (.ref T) { s with heap := h', toks := tk' }) →
    wpAny (model prog w) (ktrTop dp un gd cn cs L a ccd cl outer) (call (.ref f) vs) Q E s
section
variable {prog : Program} {w : World} {K : Frag} {p : Program} {loose : List Str} {mean : ExcName → Option Value} {mg mb : Str → Option Value} {lv : Nat} {f : Addr} {vs : List Value} {P : Int → Int → Int → Prop}
  {dp un : Nat} {gd : Option (List Code)} {cn : Str} {cs : Scope} {a : Addr} {ccd : Value} {cl : List (Str × Addr)} {outer : List Env} {A₀ : Around} {base h₀ : Heap} {L : Addr} {m : Str → Option Value} {news : List (Addr × Obj)} {s : Shared} {Q E : Value → Shared → Prop}
theorem GivesT.use (C : GivesT prog w K p loose mean mg mb lv f vs P) (B : Below A₀ base outer h₀) (F : Fr h₀ L s.heap m) (X : K.In h₀) (N : News h₀ L s.heap news) (T : Top p loose mean mg mb h₀) (hk : cs.kind = .function)
    (hd : dp + lv < recursionLimit) (hu : un + 8 * lv < cLine)
    (ret : ∀ (T : Addr) (y1 y2 y3 : Int) (t1 t2 t3 : Tok) (h' : Heap) (tk' : Nat), Fr h₀ L h' m → News h₀ L h' ((T, ({ cls := .type "tuple", data := .seq #[.int y1 t1, .int y2 t2, .int y3 t3] } : Obj)) :: news) → P y1 y2 y3 → Q (.ref T) { s with heap := h', toks := tk' }) :
    wpAny (model prog w) (ktrTop dp un gd cn cs L a ccd cl outer) (call (.ref f) vs) Q E s :=
  C _ _ _ _ _ _ _ _ _ _ _ _ _ _ _ _ _ B F X T hk hd hu fun T y1 y2 y3 t1 t2 t3 h' tk' st N' hp => ret T y1 y2 y3 t1 t2 t3 h' tk' (F.keeps st) (fun p hp => (List.mem_cons.mp hp).elim (fun e => N' p (by rw [e]; exact .head _)) (News.grown N st p)) hp
theorem tup_end {g h' : Heap} {L' : Addr} {m' : Str → Option Value} {tk' : Nat} {T : Addr} {y1 y2 y3 : Int} {t1 t2 t3 : Tok} {tl : List (Addr × Obj)}
    (hret : ∀ (T : Addr) (y1 y2 y3 : Int) (t1 t2 t3 : Tok) (h' : Heap) (tk' : Nat), (∀ b o, s.heap.get? b = some o → h'.get? b = some o) → News h₀ L h' [(T, ({ cls := .type "tuple", data := .seq #[.int y1 t1, .int y2 t2, .int y3 t3] } : Obj))] → P y1 y2 y3 → Q (.ref T) { s with heap := h', toks := tk' })
    (G : GSub s.heap g []) (F : Fr g L' h' m') (N : News h₀ L h' tl) (hm : (T, ({ cls := .type "tuple", data := .seq #[.int y1 t1, .int y2 t2, .int y3 t3] } : Obj)) ∈ tl) (hp : P y1 y2 y3) : Q (.ref T) { s with heap := h', toks := tk' } :=
  hret T y1 y2 y3 t1 t2 t3 h' tk' (fun b o e => F.keep b o (G b o e (nomatch ·))) (fun p hp => by rw [List.mem_singleton.mp hp]; exact N _ hm) hp
end

/-- where the ways of a statement meet: one int letter -/
def SMeet (h₀ : Heap) (L : Addr) (nm x1 : Str) (m : Str → Option Value) (news : List (Addr × Obj)) (s : Shared) (P : Int → Prop) (f : Flow) (s' : Shared) : Prop :=
  f = .next ∧ ∃ c tc h' tk' m' news', s' = { s with heap := h', toks := tk' } ∧ Fr h₀ L h' m' ∧ News h₀ L h' news' ∧ (∀ p ∈ news, p ∈ news') ∧ m' nm = some (.int c tc) ∧ P c ∧ ∀ z, z ≠ nm → z ≠ x1 → m' z = m z
theorem SMeet.intro {h₀ : Heap} {L : Addr} {nm x1 : Str} {m m' : Str → Option Value} {news news' : List (Addr × Obj)} {s : Shared} {P : Int → Prop} {h' : Heap} {tk' : Nat} (c : Int) (F : Fr h₀ L h' m') (N : News h₀ L h' news') (hs : ∀ p ∈ news, p ∈ news') (hv : ∃ tc, m' nm = some (.int c tc)) (hp : P c) (hr : ∀ z, z ≠ nm → z ≠ x1 → m' z = m z) :
    SMeet h₀ L nm x1 m news s P .next { s with heap := h', toks := tk' } :=
  let ⟨tc, hv⟩ := hv
  ⟨rfl, c, tc, h', tk', m', news', rfl, F, N, hs, hv, hp, hr⟩
section
variable {M : Model} {A : Around} {E : Value → Shared → Prop} {s : Shared} {h₀ : Heap} {L : Addr} {m : Str → Option Value} {news : List (Addr × Obj)} {tr : Sem Flow} {Q : Flow → Shared → Prop}
theorem smeet_at (nm x1 : Str) (P : Int → Prop) (_F : Fr h₀ L s.heap m) (_N : News h₀ L s.heap news) (part : wpAny M A tr (SMeet h₀ L nm x1 m news s P) E s)
    (cont : ∀ (c : Int) (tc : Tok) (u : Option Value) (h' : Heap) (tk' : Nat), P c → Fr h₀ L h' (fun v => if v = nm then some (.int c tc) else if v = x1 then u else m v) → News h₀ L h' news → Q .next { s with heap := h', toks := tk' }) : wpAny M A tr Q E s :=
  wpAny_mono part (fun v s' q => by
    obtain ⟨rfl, c, tc, h', tk', m', news', rfl, F', N', hs, hv, hp, hr⟩ := q
    refine cont c tc (m' x1) h' tk' hp ?_ (fun p hp => N' p (hs p hp))
    have e : m' = fun v => if v = nm then some (.int c tc) else if v = x1 then m' x1 else m v := by
      funext v
      by_cases e : v = nm
      · rw [if_pos e, e, hv]
      · rw [if_neg e]
        by_cases e1 : v = x1
        · rw [if_pos e1, e1]
        · rw [if_neg e1, hr v e e1]
    rw [← e]
    exact F') fun _ _ e => e
end
section
variable {prog : Program} {w : World} {A : Around} {E : Value → Shared → Prop} {s : Shared} {t u : Tok} {Q : Value → Shared → Prop} {x y : UInt64} {a b n : Int}
theorem r_add_xi (hn : Sm n) (h : Q (.float (Float64.add x (Float64.ofInt n)) s.toks) { s with toks := s.toks + 1 }) : wpAny (model prog w) A (binaryOp .Add (.float x t) (.int n u)) Q E s :=
  add_fi_fits (by omega) h
/-- a product and a quotient of floats that are halves, then its floor -/
theorem r_mul_ff {c : Int} (hx : x = hf a) (hy : y = hf b) (ha : Sm a) (hb : Sm b) (hc : 0 ≤ c ∧ c ≤ 8000000000000000) (h0 : 0 ≤ a) (h1 : 0 ≤ b) (e : a * b = 2 * c) (h : Q (.float (hf c) s.toks) { s with toks := s.toks + 1 }) : wpAny (model prog w) A (binaryOp .Mult (.float x t) (.float y u)) Q E s := by
  subst hx; subst hy
  refine mul_float ?_
  rw [hf_mul (c := c) (by omega) (by omega) (by omega) h0 h1 e]
  exact h
theorem r_floor_ff2 (hA : A.handled = none) (ha : 0 ≤ a ∧ a ≤ 4000000000000000) (hb : 0 < b ∧ b ≤ 400000000000000) (h : Q (.int (a / b) s.toks) { s with toks := s.toks + 1 }) : wpAny (model prog w) A (call (.builtin "math.floor") [.float (Float64.div (hf (2 * a)) (hf (2 * b))) t]) Q E s :=
  floor_of hA (ff_floor2 hb.1 (by omega) (by omega) (by omega)) h
end
end Mine
namespace Mine
open PySem PySem.W PyProof.Rows
def mth (y : Int) : Int := (235 * y - 234) / 19
def dd (y : Int) : Int := mth y * 29 + (12084 + 13753 * mth y) / 25920
def d1 (y : Int) : Int := if 3 * (dd y + 1) % 7 < 3 then dd y + 1 else dd y
def lp (y : Int) : Bool := decide ((y * 7 + 1) % 19 < 7)

def d2 (y : Int) : Int := if d1 (y + 1) - d1 y = 356 then 2 else if d1 y - d1 (y - 1) = 382 then 1 else 0

def ny (y : Int) : Int := 347996 + d1 y + d2 y

def ylen (y : Int) : Int := ny (y + 1) - ny y
def ml (y m : Int) : Int :=
  if m = 2 ∨ m = 4 ∨ m = 6 ∨ m = 10 ∨ m = 13 then 29 else if m = 12 ∧ lp y = false then 29 else if m = 8 ∧ ylen y % 10 ≠ 5 then 29 else if m = 9 ∧ ylen y % 10 = 3 then 29 else 30

def lng (y : Int) : Bool := decide (y % 19 = 0 ∨ y % 19 = 3 ∨ y % 19 = 6 ∨ y % 19 = 8 ∨ y % 19 = 11 ∨ y % 19 = 14 ∨ y % 19 = 17)
def Lg (y : Int) : Prop := y % 19 = 0 ∨ y % 19 = 3 ∨ y % 19 = 6 ∨ y % 19 = 8 ∨ y % 19 = 11 ∨ y % 19 = 14 ∨ y % 19 = 17
theorem lng_t {y : Int} (h : lng y = true) : Lg y := by simpa [lng, Lg] using h
theorem lng_f {y : Int} (h : lng y = false) : ¬ Lg y := by simpa [lng, Lg] using h
theorem any3_t {d : Int} (h : (([0, 3, 5] : List Int).any fun x => x == d) = true) : d = 0 ∨ d = 3 ∨ d = 5 := by simp at h; omega
theorem any3_f {d : Int} (h : (([0, 3, 5] : List Int).any fun x => x == d) = false) : d ≠ 0 ∧ d ≠ 3 ∧ d ≠ 5 := by simp at h; omega
def cnt (n : Nat) : Int := ↑(List.foldl (fun l' k' => if lng k' = true then l' ++ [k'] else if lng k' = false then l' else l') [] (rangeKs 1 n)).length
def mo (y : Int) : Int := 235 * ((y - 1) / 19) + 12 * ((y - 1) % 19) + cnt ((y - 1) % 19 + 1 - 1).toNat
/-- the day behind the four delays -/
def ldF (y d p : Int) : Int :=
  if 18 * 1080 ≤ p then d + 1 else if (y % 19 ≠ 0 ∧ y % 19 ≠ 3 ∧ y % 19 ≠ 6 ∧ y % 19 ≠ 8 ∧ y % 19 ≠ 11 ∧ y % 19 ≠ 14 ∧ y % 19 ≠ 17) ∧ d % 7 = 2 ∧ 9 * 1080 + 204 ≤ p then d + 1
  else if ((y - 1) % 19 = 0 ∨ (y - 1) % 19 = 3 ∨ (y - 1) % 19 = 6 ∨ (y - 1) % 19 = 8 ∨ (y - 1) % 19 = 11 ∨ (y - 1) % 19 = 14 ∨ (y - 1) % 19 = 17) ∧ d % 7 = 1 ∧ 15 * 1080 + 589 ≤ p then d + 1 else d
def lnyF (e : Int) : Int := 347997 + if e % 7 = 0 ∨ e % 7 = 3 ∨ e % 7 = 5 then e + 1 else e
def lny (y : Int) : Int := lnyF (ldF y ((31524 + 765433 * mo y) / 25920) ((31524 + 765433 * mo y) % 25920))
theorem ldF_eq {y d p e : Int} (h : (18 * 1080 ≤ p ∧ e = d + 1) ∨ (¬ 18 * 1080 ≤ p ∧ ((¬ Lg y ∧ d % 7 = 2 ∧ 9 * 1080 + 204 ≤ p ∧ e = d + 1) ∨ (¬ (¬ Lg y ∧ d % 7 = 2 ∧ 9 * 1080 + 204 ≤ p) ∧
    ((Lg (y - 1) ∧ d % 7 = 1 ∧ 15 * 1080 + 589 ≤ p ∧ e = d + 1) ∨ (¬ (Lg (y - 1) ∧ d % 7 = 1 ∧ 15 * 1080 + 589 ≤ p) ∧ e = d)))))) : e = ldF y d p := by
  unfold ldF Lg at *
  (repeat' split) <;> omega
def C2n (y d p : Int) : Prop := lng y = true ∨ ¬ d % 7 = 2 ∨ ¬ 9 * 1080 + 204 ≤ p
def C3n (y d p : Int) : Prop := lng (y - 1) = false ∨ ¬ d % 7 = 1 ∨ ¬ 15 * 1080 + 589 ≤ p
theorem c2n {y d p : Int} (h : C2n y d p) : ¬ (¬ Lg y ∧ d % 7 = 2 ∧ 9 * 1080 + 204 ≤ p) := by
  rcases h with h | h | h
  · exact fun g => g.1 (lng_t h)
  · omega
  · omega
theorem c3n {y d p : Int} (h : C3n y d p) : ¬ (Lg (y - 1) ∧ d % 7 = 1 ∧ 15 * 1080 + 589 ≤ p) := by
  rcases h with h | h | h
  · exact fun g => lng_f h g.1
  · omega
  · omega
theorem mo_is {y q r : Int} (hq : q = (y - 1) / 19) (hr : r = (y - 1) % 19) : 235 * q + 12 * r + ↑(List.foldl (fun l' k' => if lng k' = true then l' ++ [k'] else if lng k' = false then l' else l') [] (rangeKs 1 (r + 1 - 1).toNat)).length = mo y := by
  rw [hq, hr]; rfl
section
variable {y d p M : Int} (hd : d = (31524 + 765433 * M) / 25920) (hp : p = (31524 + 765433 * M) % 25920) (hM : M = mo y)
include hd hp hM
theorem lny_is : lny y = lnyF (ldF y d p) := by rw [hd, hp, hM]; rfl
theorem eAt (h1 : 18 * 1080 ≤ p) (h7 : (([0, 3, 5] : List Int).any fun x => x == (d + 1) % 7) = true) : 347997 + (d + 1 + 1) = lny y := by
  rw [lny_is hd hp hM, ← ldF_eq (.inl ⟨h1, rfl⟩)]
  have := any3_t h7
  unfold lnyF
  split <;> omega
theorem eAf (h1 : 18 * 1080 ≤ p) (h7 : (([0, 3, 5] : List Int).any fun x => x == (d + 1) % 7) = false) : 347997 + (d + 1) = lny y := by
  rw [lny_is hd hp hM, ← ldF_eq (.inl ⟨h1, rfl⟩)]
  have := any3_f h7
  unfold lnyF
  split <;> omega
theorem eBt (h1 : ¬ 18 * 1080 ≤ p) (h2 : lng y = false) (h3 : d % 7 = 2) (h4 : 9 * 1080 + 204 ≤ p) (h7 : (([0, 3, 5] : List Int).any fun x => x == (d + 1) % 7) = true) : 347997 + (d + 1 + 1) = lny y := by
  rw [lny_is hd hp hM, ← ldF_eq (.inr ⟨h1, .inl ⟨lng_f h2, h3, h4, rfl⟩⟩)]
  have := any3_t h7
  unfold lnyF
  split <;> omega
theorem eBf (h1 : ¬ 18 * 1080 ≤ p) (h2 : lng y = false) (h3 : d % 7 = 2) (h4 : 9 * 1080 + 204 ≤ p) (h7 : (([0, 3, 5] : List Int).any fun x => x == (d + 1) % 7) = false) : 347997 + (d + 1) = lny y := by
  rw [lny_is hd hp hM, ← ldF_eq (.inr ⟨h1, .inl ⟨lng_f h2, h3, h4, rfl⟩⟩)]
  have := any3_f h7
  unfold lnyF
  split <;> omega
theorem eCt (h1 : ¬ 18 * 1080 ≤ p) (h5 : C2n y d p) (h2 : lng (y - 1) = true) (h3 : d % 7 = 1) (h4 : 15 * 1080 + 589 ≤ p) (h7 : (([0, 3, 5] : List Int).any fun x => x == (d + 1) % 7) = true) : 347997 + (d + 1 + 1) = lny y := by
  rw [lny_is hd hp hM, ← ldF_eq (.inr ⟨h1, .inr ⟨c2n h5, .inl ⟨lng_t h2, h3, h4, rfl⟩⟩⟩)]
  have := any3_t h7
  unfold lnyF
  split <;> omega
theorem eCf (h1 : ¬ 18 * 1080 ≤ p) (h5 : C2n y d p) (h2 : lng (y - 1) = true) (h3 : d % 7 = 1) (h4 : 15 * 1080 + 589 ≤ p) (h7 : (([0, 3, 5] : List Int).any fun x => x == (d + 1) % 7) = false) : 347997 + (d + 1) = lny y := by
  rw [lny_is hd hp hM, ← ldF_eq (.inr ⟨h1, .inr ⟨c2n h5, .inl ⟨lng_t h2, h3, h4, rfl⟩⟩⟩)]
  have := any3_f h7
  unfold lnyF
  split <;> omega
theorem eDt (h1 : ¬ 18 * 1080 ≤ p) (h5 : C2n y d p) (h6 : C3n y d p) (h7 : (([0, 3, 5] : List Int).any fun x => x == (d) % 7) = true) : 347997 + (d + 1) = lny y := by
  rw [lny_is hd hp hM, ← ldF_eq (.inr ⟨h1, .inr ⟨c2n h5, .inr ⟨c3n h6, rfl⟩⟩⟩)]
  have := any3_t h7
  unfold lnyF
  split <;> omega
theorem eDf (h1 : ¬ 18 * 1080 ≤ p) (h5 : C2n y d p) (h6 : C3n y d p) (h7 : (([0, 3, 5] : List Int).any fun x => x == (d) % 7) = false) : 347997 + d = lny y := by
  rw [lny_is hd hp hM, ← ldF_eq (.inr ⟨h1, .inr ⟨c2n h5, .inr ⟨c3n h6, rfl⟩⟩⟩)]
  have := any3_f h7
  unfold lnyF
  split <;> omega
theorem eBn (h1 : ¬ 18 * 1080 ≤ p) (h2 : lng y = false) (h3 : d % 7 = 2) (h4 : 9 * 1080 + 204 ≤ p) : 347997 + (d + 1 + 1) = lny y := by
  rw [lny_is hd hp hM, ← ldF_eq (.inr ⟨h1, .inl ⟨lng_f h2, h3, h4, rfl⟩⟩)]
  unfold lnyF
  split <;> omega
theorem eCn (h1 : ¬ 18 * 1080 ≤ p) (h5 : C2n y d p) (h2 : lng (y - 1) = true) (h3 : d % 7 = 1) (h4 : 15 * 1080 + 589 ≤ p) : 347997 + (d + 1) = lny y := by
  rw [lny_is hd hp hM, ← ldF_eq (.inr ⟨h1, .inr ⟨c2n h5, .inl ⟨lng_t h2, h3, h4, rfl⟩⟩⟩)]
  unfold lnyF
  split <;> omega
end

theorem no21 {d : Int} {P : Prop} (h : d % 7 = 2) (g : d % 7 = 1) : P := by omega
theorem ml_bnd (y m : Int) : 29 ≤ ml y m ∧ ml y m ≤ 30 := by
  unfold ml
  (repeat' split) <;> omega
def sg (y a : Int) (n : Nat) : Int := ((rangeKs a n).map (ml y)).sum
def off (y m : Int) : Int := if m < 7 then sg y 7 ((if lp y then (13 : Int) else 12) + 1 - 7).toNat + sg y 1 (m - 1).toNat else sg y 7 (m - 7).toNat
/-- the day of the conjunction, from 18 hours on the next one -/
def eE (X : Int) : Int := (X + 6480) / 25920
def aA (X : Int) : Int := if eE X % 7 = 0 ∨ eE X % 7 = 3 ∨ eE X % 7 = 5 then eE X + 1 else eE X
def zZ (d : Int) : Int := if d % 7 = 0 ∨ d % 7 = 3 ∨ d % 7 = 5 then d + 1 else d
theorem aA_lo (X d p : Int) (hX : X = 25920 * d + p) (h0 : 0 ≤ p) (h1 : p < 19440) : aA X = zZ d := by
  have e : eE X = d := by unfold eE; omega
  unfold aA zZ
  rw [e]
theorem aA_hi (X d p : Int) (hX : X = 25920 * d + p) (h0 : 19440 ≤ p) (h1 : p < 25920) : aA X = zZ (d + 1) := by
  have e : eE X = d + 1 := by unfold eE; omega
  unfold aA zZ
  rw [e]
theorem zZ_t (d : Int) (h : d % 7 = 0 ∨ d % 7 = 3 ∨ d % 7 = 5) : zZ d = d + 1 := if_pos h
theorem zZ_f (d : Int) (h : ¬ (d % 7 = 0 ∨ d % 7 = 3 ∨ d % 7 = 5)) : zZ d = d := if_neg h
def wW (X a b : Int) : Int := aA X + (if aA (X + 765433 * a) - aA X = 356 then 2 else if aA X - aA (X - 765433 * b) = 382 then 1 else 0)
def vV (a b D P : Int) : Int :=
  zZ (if 18 * 1080 ≤ P then D + 1 else if a = 12 ∧ D % 7 = 2 ∧ 9 * 1080 + 204 ≤ P then D + 1 else if b = 13 ∧ D % 7 = 1 ∧ 15 * 1080 + 589 ≤ P then D + 1 else D)
theorem core_12_12_0 (D P : Int) (h0 : 0 ≤ P) (h1 : P < 3036) : wW (25920 * D + P) 12 12 = vV 12 12 D P := by
  have hr : D % 7 = 0 ∨ D % 7 = 1 ∨ D % 7 = 2 ∨ D % 7 = 3 ∨ D % 7 = 4 ∨ D % 7 = 5 ∨ D % 7 = 6 := by omega
  unfold wW vV
  rw [aA_lo (25920 * D + P) (D + 0) (25920 * D + P - 25920 * (D + 0)) (by omega) (by omega) (by omega), aA_lo (25920 * D + P + 765433 * 12) (D + 354) (25920 * D + P + 765433 * 12 - 25920 * (D + 354)) (by omega) (by omega) (by omega), aA_lo (25920 * D + P - 765433 * 12) (D - 355) (25920 * D + P - 765433 * 12 - 25920 * (D - 355)) (by omega) (by omega) (by omega)]
  rcases hr with hr | hr | hr | hr | hr | hr | hr
  · rw [zZ_t (D + 0) (by omega), zZ_f (D + 354) (by omega), zZ_f (D - 355) (by omega), if_neg (by omega), if_neg (by omega), if_neg (by omega), if_neg (by omega), if_neg (by omega), zZ_t D (by omega)]; omega
  · rw [zZ_f (D + 0) (by omega), zZ_t (D + 354) (by omega), zZ_t (D - 355) (by omega), if_neg (by omega), if_neg (by omega), if_neg (by omega), if_neg (by omega), if_neg (by omega), zZ_f D (by omega)]; omega
  · rw [zZ_f (D + 0) (by omega), zZ_f (D + 354) (by omega), zZ_f (D - 355) (by omega), if_neg (by omega), if_neg (by omega), if_neg (by omega), if_neg (by omega), if_neg (by omega), zZ_f D (by omega)]; omega
  · rw [zZ_t (D + 0) (by omega), zZ_t (D + 354) (by omega), zZ_t (D - 355) (by omega), if_neg (by omega), if_neg (by omega), if_neg (by omega), if_neg (by omega), if_neg (by omega), zZ_t D (by omega)]; omega
  · rw [zZ_f (D + 0) (by omega), zZ_f (D + 354) (by omega), zZ_f (D - 355) (by omega), if_neg (by omega), if_neg (by omega), if_neg (by omega), if_neg (by omega), if_neg (by omega), zZ_f D (by omega)]; omega
  · rw [zZ_t (D + 0) (by omega), zZ_f (D + 354) (by omega), zZ_t (D - 355) (by omega), if_neg (by omega), if_neg (by omega), if_neg (by omega), if_neg (by omega), if_neg (by omega), zZ_t D (by omega)]; omega
  · rw [zZ_f (D + 0) (by omega), zZ_t (D + 354) (by omega), zZ_f (D - 355) (by omega), if_neg (by omega), if_neg (by omega), if_neg (by omega), if_neg (by omega), if_neg (by omega), zZ_f D (by omega)]; omega
theorem core_12_12_1 (D P : Int) (h0 : 3036 ≤ P) (h1 : P < 9516) : wW (25920 * D + P) 12 12 = vV 12 12 D P := by
  have hr : D % 7 = 0 ∨ D % 7 = 1 ∨ D % 7 = 2 ∨ D % 7 = 3 ∨ D % 7 = 4 ∨ D % 7 = 5 ∨ D % 7 = 6 := by omega
  unfold wW vV
  rw [aA_lo (25920 * D + P) (D + 0) (25920 * D + P - 25920 * (D + 0)) (by omega) (by omega) (by omega), aA_lo (25920 * D + P + 765433 * 12) (D + 354) (25920 * D + P + 765433 * 12 - 25920 * (D + 354)) (by omega) (by omega) (by omega), aA_hi (25920 * D + P - 765433 * 12) (D - 355) (25920 * D + P - 765433 * 12 - 25920 * (D - 355)) (by omega) (by omega) (by omega)]
  rcases hr with hr | hr | hr | hr | hr | hr | hr
  · rw [zZ_t (D + 0) (by omega), zZ_f (D + 354) (by omega), zZ_t (D - 355 + 1) (by omega), if_neg (by omega), if_neg (by omega), if_neg (by omega), if_neg (by omega), if_neg (by omega), zZ_t D (by omega)]; omega
  · rw [zZ_f (D + 0) (by omega), zZ_t (D + 354) (by omega), zZ_f (D - 355 + 1) (by omega), if_neg (by omega), if_neg (by omega), if_neg (by omega), if_neg (by omega), if_neg (by omega), zZ_f D (by omega)]; omega
  · rw [zZ_f (D + 0) (by omega), zZ_f (D + 354) (by omega), zZ_t (D - 355 + 1) (by omega), if_neg (by omega), if_neg (by omega), if_neg (by omega), if_neg (by omega), if_neg (by omega), zZ_f D (by omega)]; omega
  · rw [zZ_t (D + 0) (by omega), zZ_t (D + 354) (by omega), zZ_f (D - 355 + 1) (by omega), if_neg (by omega), if_neg (by omega), if_neg (by omega), if_neg (by omega), if_neg (by omega), zZ_t D (by omega)]; omega
  · rw [zZ_f (D + 0) (by omega), zZ_f (D + 354) (by omega), zZ_t (D - 355 + 1) (by omega), if_neg (by omega), if_neg (by omega), if_neg (by omega), if_neg (by omega), if_neg (by omega), zZ_f D (by omega)]; omega
  · rw [zZ_t (D + 0) (by omega), zZ_f (D + 354) (by omega), zZ_f (D - 355 + 1) (by omega), if_neg (by omega), if_neg (by omega), if_neg (by omega), if_neg (by omega), if_neg (by omega), zZ_t D (by omega)]; omega
  · rw [zZ_f (D + 0) (by omega), zZ_t (D + 354) (by omega), zZ_f (D - 355 + 1) (by omega), if_neg (by omega), if_neg (by omega), if_neg (by omega), if_neg (by omega), if_neg (by omega), zZ_f D (by omega)]; omega
theorem core_12_12_2 (D P : Int) (h0 : 9516 ≤ P) (h1 : P < 9924) : wW (25920 * D + P) 12 12 = vV 12 12 D P := by
  have hr : D % 7 = 0 ∨ D % 7 = 1 ∨ D % 7 = 2 ∨ D % 7 = 3 ∨ D % 7 = 4 ∨ D % 7 = 5 ∨ D % 7 = 6 := by omega
  unfold wW vV
  rw [aA_lo (25920 * D + P) (D + 0) (25920 * D + P - 25920 * (D + 0)) (by omega) (by omega) (by omega), aA_lo (25920 * D + P + 765433 * 12) (D + 354) (25920 * D + P + 765433 * 12 - 25920 * (D + 354)) (by omega) (by omega) (by omega), aA_lo (25920 * D + P - 765433 * 12) (D - 354) (25920 * D + P - 765433 * 12 - 25920 * (D - 354)) (by omega) (by omega) (by omega)]
  rcases hr with hr | hr | hr | hr | hr | hr | hr
  · rw [zZ_t (D + 0) (by omega), zZ_f (D + 354) (by omega), zZ_t (D - 354) (by omega), if_neg (by omega), if_neg (by omega), if_neg (by omega), if_neg (by omega), if_neg (by omega), zZ_t D (by omega)]; omega
  · rw [zZ_f (D + 0) (by omega), zZ_t (D + 354) (by omega), zZ_f (D - 354) (by omega), if_neg (by omega), if_neg (by omega), if_neg (by omega), if_neg (by omega), if_neg (by omega), zZ_f D (by omega)]; omega
  · rw [zZ_f (D + 0) (by omega), zZ_f (D + 354) (by omega), zZ_t (D - 354) (by omega), if_neg (by omega), if_neg (by omega), if_neg (by omega), if_neg (by omega), if_neg (by omega), zZ_f D (by omega)]; omega
  · rw [zZ_t (D + 0) (by omega), zZ_t (D + 354) (by omega), zZ_f (D - 354) (by omega), if_neg (by omega), if_neg (by omega), if_neg (by omega), if_neg (by omega), if_neg (by omega), zZ_t D (by omega)]; omega
  · rw [zZ_f (D + 0) (by omega), zZ_f (D + 354) (by omega), zZ_t (D - 354) (by omega), if_neg (by omega), if_neg (by omega), if_neg (by omega), if_neg (by omega), if_neg (by omega), zZ_f D (by omega)]; omega
  · rw [zZ_t (D + 0) (by omega), zZ_f (D + 354) (by omega), zZ_f (D - 354) (by omega), if_neg (by omega), if_neg (by omega), if_neg (by omega), if_neg (by omega), if_neg (by omega), zZ_t D (by omega)]; omega
  · rw [zZ_f (D + 0) (by omega), zZ_t (D + 354) (by omega), zZ_f (D - 354) (by omega), if_neg (by omega), if_neg (by omega), if_neg (by omega), if_neg (by omega), if_neg (by omega), zZ_f D (by omega)]; omega
theorem core_12_12_3 (D P : Int) (h0 : 9924 ≤ P) (h1 : P < 16404) : wW (25920 * D + P) 12 12 = vV 12 12 D P := by
  have hr : D % 7 = 0 ∨ D % 7 = 1 ∨ D % 7 = 2 ∨ D % 7 = 3 ∨ D % 7 = 4 ∨ D % 7 = 5 ∨ D % 7 = 6 := by omega
  unfold wW vV
  rw [aA_lo (25920 * D + P) (D + 0) (25920 * D + P - 25920 * (D + 0)) (by omega) (by omega) (by omega), aA_hi (25920 * D + P + 765433 * 12) (D + 354) (25920 * D + P + 765433 * 12 - 25920 * (D + 354)) (by omega) (by omega) (by omega), aA_lo (25920 * D + P - 765433 * 12) (D - 354) (25920 * D + P - 765433 * 12 - 25920 * (D - 354)) (by omega) (by omega) (by omega)]
  rcases hr with hr | hr | hr | hr | hr | hr | hr
  · rw [zZ_t (D + 0) (by omega), zZ_t (D + 354 + 1) (by omega), zZ_t (D - 354) (by omega), if_neg (by omega), if_neg (by omega), if_neg (by omega), if_neg (by omega), if_neg (by omega), zZ_t D (by omega)]; omega
  · rw [zZ_f (D + 0) (by omega), zZ_f (D + 354 + 1) (by omega), zZ_f (D - 354) (by omega), if_neg (by omega), if_neg (by omega), if_neg (by omega), if_neg (by omega), if_neg (by omega), zZ_f D (by omega)]; omega
  · rw [zZ_f (D + 0) (by omega), zZ_t (D + 354 + 1) (by omega), zZ_t (D - 354) (by omega), if_pos (by omega), if_neg (by omega), if_pos (by omega), zZ_t (D + 1) (by omega)]; omega
  · rw [zZ_t (D + 0) (by omega), zZ_f (D + 354 + 1) (by omega), zZ_f (D - 354) (by omega), if_neg (by omega), if_neg (by omega), if_neg (by omega), if_neg (by omega), if_neg (by omega), zZ_t D (by omega)]; omega
  · rw [zZ_f (D + 0) (by omega), zZ_f (D + 354 + 1) (by omega), zZ_t (D - 354) (by omega), if_neg (by omega), if_neg (by omega), if_neg (by omega), if_neg (by omega), if_neg (by omega), zZ_f D (by omega)]; omega
  · rw [zZ_t (D + 0) (by omega), zZ_t (D + 354 + 1) (by omega), zZ_f (D - 354) (by omega), if_neg (by omega), if_neg (by omega), if_neg (by omega), if_neg (by omega), if_neg (by omega), zZ_t D (by omega)]; omega
  · rw [zZ_f (D + 0) (by omega), zZ_f (D + 354 + 1) (by omega), zZ_f (D - 354) (by omega), if_neg (by omega), if_neg (by omega), if_neg (by omega), if_neg (by omega), if_neg (by omega), zZ_f D (by omega)]; omega
theorem core_12_12_4 (D P : Int) (h0 : 16404 ≤ P) (h1 : P < 19440) : wW (25920 * D + P) 12 12 = vV 12 12 D P := by
  have hr : D % 7 = 0 ∨ D % 7 = 1 ∨ D % 7 = 2 ∨ D % 7 = 3 ∨ D % 7 = 4 ∨ D % 7 = 5 ∨ D % 7 = 6 := by omega
  unfold wW vV
  rw [aA_lo (25920 * D + P) (D + 0) (25920 * D + P - 25920 * (D + 0)) (by omega) (by omega) (by omega), aA_lo (25920 * D + P + 765433 * 12) (D + 355) (25920 * D + P + 765433 * 12 - 25920 * (D + 355)) (by omega) (by omega) (by omega), aA_lo (25920 * D + P - 765433 * 12) (D - 354) (25920 * D + P - 765433 * 12 - 25920 * (D - 354)) (by omega) (by omega) (by omega)]
  rcases hr with hr | hr | hr | hr | hr | hr | hr
  · rw [zZ_t (D + 0) (by omega), zZ_t (D + 355) (by omega), zZ_t (D - 354) (by omega), if_neg (by omega), if_neg (by omega), if_neg (by omega), if_neg (by omega), if_neg (by omega), zZ_t D (by omega)]; omega
  · rw [zZ_f (D + 0) (by omega), zZ_f (D + 355) (by omega), zZ_f (D - 354) (by omega), if_neg (by omega), if_neg (by omega), if_neg (by omega), if_neg (by omega), if_neg (by omega), zZ_f D (by omega)]; omega
  · rw [zZ_f (D + 0) (by omega), zZ_t (D + 355) (by omega), zZ_t (D - 354) (by omega), if_pos (by omega), if_neg (by omega), if_pos (by omega), zZ_t (D + 1) (by omega)]; omega
  · rw [zZ_t (D + 0) (by omega), zZ_f (D + 355) (by omega), zZ_f (D - 354) (by omega), if_neg (by omega), if_neg (by omega), if_neg (by omega), if_neg (by omega), if_neg (by omega), zZ_t D (by omega)]; omega
  · rw [zZ_f (D + 0) (by omega), zZ_f (D + 355) (by omega), zZ_t (D - 354) (by omega), if_neg (by omega), if_neg (by omega), if_neg (by omega), if_neg (by omega), if_neg (by omega), zZ_f D (by omega)]; omega
  · rw [zZ_t (D + 0) (by omega), zZ_t (D + 355) (by omega), zZ_f (D - 354) (by omega), if_neg (by omega), if_neg (by omega), if_neg (by omega), if_neg (by omega), if_neg (by omega), zZ_t D (by omega)]; omega
  · rw [zZ_f (D + 0) (by omega), zZ_f (D + 355) (by omega), zZ_f (D - 354) (by omega), if_neg (by omega), if_neg (by omega), if_neg (by omega), if_neg (by omega), if_neg (by omega), zZ_f D (by omega)]; omega
theorem core_12_12_5 (D P : Int) (h0 : 19440 ≤ P) (h1 : P < 25920) : wW (25920 * D + P) 12 12 = vV 12 12 D P := by
  have hr : D % 7 = 0 ∨ D % 7 = 1 ∨ D % 7 = 2 ∨ D % 7 = 3 ∨ D % 7 = 4 ∨ D % 7 = 5 ∨ D % 7 = 6 := by omega
  unfold wW vV
  rw [aA_hi (25920 * D + P) (D + 0) (25920 * D + P - 25920 * (D + 0)) (by omega) (by omega) (by omega), aA_lo (25920 * D + P + 765433 * 12) (D + 355) (25920 * D + P + 765433 * 12 - 25920 * (D + 355)) (by omega) (by omega) (by omega), aA_lo (25920 * D + P - 765433 * 12) (D - 354) (25920 * D + P - 765433 * 12 - 25920 * (D - 354)) (by omega) (by omega) (by omega)]
  rcases hr with hr | hr | hr | hr | hr | hr | hr
  · rw [zZ_f (D + 0 + 1) (by omega), zZ_t (D + 355) (by omega), zZ_t (D - 354) (by omega), if_neg (by omega), if_neg (by omega), if_pos (by omega), zZ_f (D + 1) (by omega)]; omega
  · rw [zZ_f (D + 0 + 1) (by omega), zZ_f (D + 355) (by omega), zZ_f (D - 354) (by omega), if_neg (by omega), if_neg (by omega), if_pos (by omega), zZ_f (D + 1) (by omega)]; omega
  · rw [zZ_t (D + 0 + 1) (by omega), zZ_t (D + 355) (by omega), zZ_t (D - 354) (by omega), if_neg (by omega), if_neg (by omega), if_pos (by omega), zZ_t (D + 1) (by omega)]; omega
  · rw [zZ_f (D + 0 + 1) (by omega), zZ_f (D + 355) (by omega), zZ_f (D - 354) (by omega), if_neg (by omega), if_neg (by omega), if_pos (by omega), zZ_f (D + 1) (by omega)]; omega
  · rw [zZ_t (D + 0 + 1) (by omega), zZ_f (D + 355) (by omega), zZ_t (D - 354) (by omega), if_neg (by omega), if_neg (by omega), if_pos (by omega), zZ_t (D + 1) (by omega)]; omega
  · rw [zZ_f (D + 0 + 1) (by omega), zZ_t (D + 355) (by omega), zZ_f (D - 354) (by omega), if_neg (by omega), if_neg (by omega), if_pos (by omega), zZ_f (D + 1) (by omega)]; omega
  · rw [zZ_t (D + 0 + 1) (by omega), zZ_f (D + 355) (by omega), zZ_f (D - 354) (by omega), if_neg (by omega), if_neg (by omega), if_pos (by omega), zZ_t (D + 1) (by omega)]; omega
theorem core_12_12 (D P : Int) (h0 : 0 ≤ P) (h1 : P < 25920) : wW (25920 * D + P) 12 12 = vV 12 12 D P := by
  by_cases c0 : P < 3036
  · exact core_12_12_0 D P (by omega) c0
  by_cases c1 : P < 9516
  · exact core_12_12_1 D P (by omega) c1
  by_cases c2 : P < 9924
  · exact core_12_12_2 D P (by omega) c2
  by_cases c3 : P < 16404
  · exact core_12_12_3 D P (by omega) c3
  by_cases c4 : P < 19440
  · exact core_12_12_4 D P (by omega) c4
  exact core_12_12_5 D P (by omega) h1
theorem core_12_13_0 (D P : Int) (h0 : 0 ≤ P) (h1 : P < 9924) : wW (25920 * D + P) 12 13 = vV 12 13 D P := by
  have hr : D % 7 = 0 ∨ D % 7 = 1 ∨ D % 7 = 2 ∨ D % 7 = 3 ∨ D % 7 = 4 ∨ D % 7 = 5 ∨ D % 7 = 6 := by omega
  unfold wW vV
  rw [aA_lo (25920 * D + P) (D + 0) (25920 * D + P - 25920 * (D + 0)) (by omega) (by omega) (by omega), aA_lo (25920 * D + P + 765433 * 12) (D + 354) (25920 * D + P + 765433 * 12 - 25920 * (D + 354)) (by omega) (by omega) (by omega), aA_lo (25920 * D + P - 765433 * 13) (D - 384) (25920 * D + P - 765433 * 13 - 25920 * (D - 384)) (by omega) (by omega) (by omega)]
  rcases hr with hr | hr | hr | hr | hr | hr | hr
  · rw [zZ_t (D + 0) (by omega), zZ_f (D + 354) (by omega), zZ_f (D - 384) (by omega), if_neg (by omega), if_neg (by omega), if_neg (by omega), if_neg (by omega), if_neg (by omega), zZ_t D (by omega)]; omega
  · rw [zZ_f (D + 0) (by omega), zZ_t (D + 354) (by omega), zZ_f (D - 384) (by omega), if_neg (by omega), if_neg (by omega), if_neg (by omega), if_neg (by omega), if_neg (by omega), zZ_f D (by omega)]; omega
  · rw [zZ_f (D + 0) (by omega), zZ_f (D + 354) (by omega), zZ_t (D - 384) (by omega), if_neg (by omega), if_neg (by omega), if_neg (by omega), if_neg (by omega), if_neg (by omega), zZ_f D (by omega)]; omega
  · rw [zZ_t (D + 0) (by omega), zZ_t (D + 354) (by omega), zZ_f (D - 384) (by omega), if_neg (by omega), if_neg (by omega), if_neg (by omega), if_neg (by omega), if_neg (by omega), zZ_t D (by omega)]; omega
  · rw [zZ_f (D + 0) (by omega), zZ_f (D + 354) (by omega), zZ_t (D - 384) (by omega), if_neg (by omega), if_neg (by omega), if_neg (by omega), if_neg (by omega), if_neg (by omega), zZ_f D (by omega)]; omega
  · rw [zZ_t (D + 0) (by omega), zZ_f (D + 354) (by omega), zZ_f (D - 384) (by omega), if_neg (by omega), if_neg (by omega), if_neg (by omega), if_neg (by omega), if_neg (by omega), zZ_t D (by omega)]; omega
  · rw [zZ_f (D + 0) (by omega), zZ_t (D + 354) (by omega), zZ_t (D - 384) (by omega), if_neg (by omega), if_neg (by omega), if_neg (by omega), if_neg (by omega), if_neg (by omega), zZ_f D (by omega)]; omega
theorem core_12_13_1 (D P : Int) (h0 : 9924 ≤ P) (h1 : P < 16404) : wW (25920 * D + P) 12 13 = vV 12 13 D P := by
  have hr : D % 7 = 0 ∨ D % 7 = 1 ∨ D % 7 = 2 ∨ D % 7 = 3 ∨ D % 7 = 4 ∨ D % 7 = 5 ∨ D % 7 = 6 := by omega
  unfold wW vV
  rw [aA_lo (25920 * D + P) (D + 0) (25920 * D + P - 25920 * (D + 0)) (by omega) (by omega) (by omega), aA_hi (25920 * D + P + 765433 * 12) (D + 354) (25920 * D + P + 765433 * 12 - 25920 * (D + 354)) (by omega) (by omega) (by omega), aA_lo (25920 * D + P - 765433 * 13) (D - 384) (25920 * D + P - 765433 * 13 - 25920 * (D - 384)) (by omega) (by omega) (by omega)]
  rcases hr with hr | hr | hr | hr | hr | hr | hr
  · rw [zZ_t (D + 0) (by omega), zZ_t (D + 354 + 1) (by omega), zZ_f (D - 384) (by omega), if_neg (by omega), if_neg (by omega), if_neg (by omega), if_neg (by omega), if_neg (by omega), zZ_t D (by omega)]; omega
  · rw [zZ_f (D + 0) (by omega), zZ_f (D + 354 + 1) (by omega), zZ_f (D - 384) (by omega), if_neg (by omega), if_neg (by omega), if_neg (by omega), if_neg (by omega), if_neg (by omega), zZ_f D (by omega)]; omega
  · rw [zZ_f (D + 0) (by omega), zZ_t (D + 354 + 1) (by omega), zZ_t (D - 384) (by omega), if_pos (by omega), if_neg (by omega), if_pos (by omega), zZ_t (D + 1) (by omega)]; omega
  · rw [zZ_t (D + 0) (by omega), zZ_f (D + 354 + 1) (by omega), zZ_f (D - 384) (by omega), if_neg (by omega), if_neg (by omega), if_neg (by omega), if_neg (by omega), if_neg (by omega), zZ_t D (by omega)]; omega
  · rw [zZ_f (D + 0) (by omega), zZ_f (D + 354 + 1) (by omega), zZ_t (D - 384) (by omega), if_neg (by omega), if_neg (by omega), if_neg (by omega), if_neg (by omega), if_neg (by omega), zZ_f D (by omega)]; omega
  · rw [zZ_t (D + 0) (by omega), zZ_t (D + 354 + 1) (by omega), zZ_f (D - 384) (by omega), if_neg (by omega), if_neg (by omega), if_neg (by omega), if_neg (by omega), if_neg (by omega), zZ_t D (by omega)]; omega
  · rw [zZ_f (D + 0) (by omega), zZ_f (D + 354 + 1) (by omega), zZ_t (D - 384) (by omega), if_neg (by omega), if_neg (by omega), if_neg (by omega), if_neg (by omega), if_neg (by omega), zZ_f D (by omega)]; omega
theorem core_12_13_2 (D P : Int) (h0 : 16404 ≤ P) (h1 : P < 16789) : wW (25920 * D + P) 12 13 = vV 12 13 D P := by
  have hr : D % 7 = 0 ∨ D % 7 = 1 ∨ D % 7 = 2 ∨ D % 7 = 3 ∨ D % 7 = 4 ∨ D % 7 = 5 ∨ D % 7 = 6 := by omega
  unfold wW vV
  rw [aA_lo (25920 * D + P) (D + 0) (25920 * D + P - 25920 * (D + 0)) (by omega) (by omega) (by omega), aA_lo (25920 * D + P + 765433 * 12) (D + 355) (25920 * D + P + 765433 * 12 - 25920 * (D + 355)) (by omega) (by omega) (by omega), aA_lo (25920 * D + P - 765433 * 13) (D - 384) (25920 * D + P - 765433 * 13 - 25920 * (D - 384)) (by omega) (by omega) (by omega)]
  rcases hr with hr | hr | hr | hr | hr | hr | hr
  · rw [zZ_t (D + 0) (by omega), zZ_t (D + 355) (by omega), zZ_f (D - 384) (by omega), if_neg (by omega), if_neg (by omega), if_neg (by omega), if_neg (by omega), if_neg (by omega), zZ_t D (by omega)]; omega
  · rw [zZ_f (D + 0) (by omega), zZ_f (D + 355) (by omega), zZ_f (D - 384) (by omega), if_neg (by omega), if_neg (by omega), if_neg (by omega), if_neg (by omega), if_neg (by omega), zZ_f D (by omega)]; omega
  · rw [zZ_f (D + 0) (by omega), zZ_t (D + 355) (by omega), zZ_t (D - 384) (by omega), if_pos (by omega), if_neg (by omega), if_pos (by omega), zZ_t (D + 1) (by omega)]; omega
  · rw [zZ_t (D + 0) (by omega), zZ_f (D + 355) (by omega), zZ_f (D - 384) (by omega), if_neg (by omega), if_neg (by omega), if_neg (by omega), if_neg (by omega), if_neg (by omega), zZ_t D (by omega)]; omega
  · rw [zZ_f (D + 0) (by omega), zZ_f (D + 355) (by omega), zZ_t (D - 384) (by omega), if_neg (by omega), if_neg (by omega), if_neg (by omega), if_neg (by omega), if_neg (by omega), zZ_f D (by omega)]; omega
  · rw [zZ_t (D + 0) (by omega), zZ_t (D + 355) (by omega), zZ_f (D - 384) (by omega), if_neg (by omega), if_neg (by omega), if_neg (by omega), if_neg (by omega), if_neg (by omega), zZ_t D (by omega)]; omega
  · rw [zZ_f (D + 0) (by omega), zZ_f (D + 355) (by omega), zZ_t (D - 384) (by omega), if_neg (by omega), if_neg (by omega), if_neg (by omega), if_neg (by omega), if_neg (by omega), zZ_f D (by omega)]; omega
theorem core_12_13_3 (D P : Int) (h0 : 16789 ≤ P) (h1 : P < 19440) : wW (25920 * D + P) 12 13 = vV 12 13 D P := by
  have hr : D % 7 = 0 ∨ D % 7 = 1 ∨ D % 7 = 2 ∨ D % 7 = 3 ∨ D % 7 = 4 ∨ D % 7 = 5 ∨ D % 7 = 6 := by omega
  unfold wW vV
  rw [aA_lo (25920 * D + P) (D + 0) (25920 * D + P - 25920 * (D + 0)) (by omega) (by omega) (by omega), aA_lo (25920 * D + P + 765433 * 12) (D + 355) (25920 * D + P + 765433 * 12 - 25920 * (D + 355)) (by omega) (by omega) (by omega), aA_hi (25920 * D + P - 765433 * 13) (D - 384) (25920 * D + P - 765433 * 13 - 25920 * (D - 384)) (by omega) (by omega) (by omega)]
  rcases hr with hr | hr | hr | hr | hr | hr | hr
  · rw [zZ_t (D + 0) (by omega), zZ_t (D + 355) (by omega), zZ_f (D - 384 + 1) (by omega), if_neg (by omega), if_neg (by omega), if_neg (by omega), if_neg (by omega), if_neg (by omega), zZ_t D (by omega)]; omega
  · rw [zZ_f (D + 0) (by omega), zZ_f (D + 355) (by omega), zZ_t (D - 384 + 1) (by omega), if_neg (by omega), if_pos (by omega), if_neg (by omega), if_neg (by omega), if_pos (by omega), zZ_f (D + 1) (by omega)]; omega
  · rw [zZ_f (D + 0) (by omega), zZ_t (D + 355) (by omega), zZ_f (D - 384 + 1) (by omega), if_pos (by omega), if_neg (by omega), if_pos (by omega), zZ_t (D + 1) (by omega)]; omega
  · rw [zZ_t (D + 0) (by omega), zZ_f (D + 355) (by omega), zZ_t (D - 384 + 1) (by omega), if_neg (by omega), if_neg (by omega), if_neg (by omega), if_neg (by omega), if_neg (by omega), zZ_t D (by omega)]; omega
  · rw [zZ_f (D + 0) (by omega), zZ_f (D + 355) (by omega), zZ_f (D - 384 + 1) (by omega), if_neg (by omega), if_neg (by omega), if_neg (by omega), if_neg (by omega), if_neg (by omega), zZ_f D (by omega)]; omega
  · rw [zZ_t (D + 0) (by omega), zZ_t (D + 355) (by omega), zZ_t (D - 384 + 1) (by omega), if_neg (by omega), if_neg (by omega), if_neg (by omega), if_neg (by omega), if_neg (by omega), zZ_t D (by omega)]; omega
  · rw [zZ_f (D + 0) (by omega), zZ_f (D + 355) (by omega), zZ_f (D - 384 + 1) (by omega), if_neg (by omega), if_neg (by omega), if_neg (by omega), if_neg (by omega), if_neg (by omega), zZ_f D (by omega)]; omega
theorem core_12_13_4 (D P : Int) (h0 : 19440 ≤ P) (h1 : P < 23269) : wW (25920 * D + P) 12 13 = vV 12 13 D P := by
  have hr : D % 7 = 0 ∨ D % 7 = 1 ∨ D % 7 = 2 ∨ D % 7 = 3 ∨ D % 7 = 4 ∨ D % 7 = 5 ∨ D % 7 = 6 := by omega
  unfold wW vV
  rw [aA_hi (25920 * D + P) (D + 0) (25920 * D + P - 25920 * (D + 0)) (by omega) (by omega) (by omega), aA_lo (25920 * D + P + 765433 * 12) (D + 355) (25920 * D + P + 765433 * 12 - 25920 * (D + 355)) (by omega) (by omega) (by omega), aA_hi (25920 * D + P - 765433 * 13) (D - 384) (25920 * D + P - 765433 * 13 - 25920 * (D - 384)) (by omega) (by omega) (by omega)]
  rcases hr with hr | hr | hr | hr | hr | hr | hr
  · rw [zZ_f (D + 0 + 1) (by omega), zZ_t (D + 355) (by omega), zZ_f (D - 384 + 1) (by omega), if_neg (by omega), if_neg (by omega), if_pos (by omega), zZ_f (D + 1) (by omega)]; omega
  · rw [zZ_f (D + 0 + 1) (by omega), zZ_f (D + 355) (by omega), zZ_t (D - 384 + 1) (by omega), if_neg (by omega), if_neg (by omega), if_pos (by omega), zZ_f (D + 1) (by omega)]; omega
  · rw [zZ_t (D + 0 + 1) (by omega), zZ_t (D + 355) (by omega), zZ_f (D - 384 + 1) (by omega), if_neg (by omega), if_neg (by omega), if_pos (by omega), zZ_t (D + 1) (by omega)]; omega
  · rw [zZ_f (D + 0 + 1) (by omega), zZ_f (D + 355) (by omega), zZ_t (D - 384 + 1) (by omega), if_neg (by omega), if_neg (by omega), if_pos (by omega), zZ_f (D + 1) (by omega)]; omega
  · rw [zZ_t (D + 0 + 1) (by omega), zZ_f (D + 355) (by omega), zZ_f (D - 384 + 1) (by omega), if_neg (by omega), if_neg (by omega), if_pos (by omega), zZ_t (D + 1) (by omega)]; omega
  · rw [zZ_f (D + 0 + 1) (by omega), zZ_t (D + 355) (by omega), zZ_t (D - 384 + 1) (by omega), if_neg (by omega), if_neg (by omega), if_pos (by omega), zZ_f (D + 1) (by omega)]; omega
  · rw [zZ_t (D + 0 + 1) (by omega), zZ_f (D + 355) (by omega), zZ_f (D - 384 + 1) (by omega), if_neg (by omega), if_neg (by omega), if_pos (by omega), zZ_t (D + 1) (by omega)]; omega
theorem core_12_13_5 (D P : Int) (h0 : 23269 ≤ P) (h1 : P < 25920) : wW (25920 * D + P) 12 13 = vV 12 13 D P := by
  have hr : D % 7 = 0 ∨ D % 7 = 1 ∨ D % 7 = 2 ∨ D % 7 = 3 ∨ D % 7 = 4 ∨ D % 7 = 5 ∨ D % 7 = 6 := by omega
  unfold wW vV
  rw [aA_hi (25920 * D + P) (D + 0) (25920 * D + P - 25920 * (D + 0)) (by omega) (by omega) (by omega), aA_lo (25920 * D + P + 765433 * 12) (D + 355) (25920 * D + P + 765433 * 12 - 25920 * (D + 355)) (by omega) (by omega) (by omega), aA_lo (25920 * D + P - 765433 * 13) (D - 383) (25920 * D + P - 765433 * 13 - 25920 * (D - 383)) (by omega) (by omega) (by omega)]
  rcases hr with hr | hr | hr | hr | hr | hr | hr
  · rw [zZ_f (D + 0 + 1) (by omega), zZ_t (D + 355) (by omega), zZ_f (D - 383) (by omega), if_neg (by omega), if_neg (by omega), if_pos (by omega), zZ_f (D + 1) (by omega)]; omega
  · rw [zZ_f (D + 0 + 1) (by omega), zZ_f (D + 355) (by omega), zZ_t (D - 383) (by omega), if_neg (by omega), if_neg (by omega), if_pos (by omega), zZ_f (D + 1) (by omega)]; omega
  · rw [zZ_t (D + 0 + 1) (by omega), zZ_t (D + 355) (by omega), zZ_f (D - 383) (by omega), if_neg (by omega), if_neg (by omega), if_pos (by omega), zZ_t (D + 1) (by omega)]; omega
  · rw [zZ_f (D + 0 + 1) (by omega), zZ_f (D + 355) (by omega), zZ_t (D - 383) (by omega), if_neg (by omega), if_neg (by omega), if_pos (by omega), zZ_f (D + 1) (by omega)]; omega
  · rw [zZ_t (D + 0 + 1) (by omega), zZ_f (D + 355) (by omega), zZ_f (D - 383) (by omega), if_neg (by omega), if_neg (by omega), if_pos (by omega), zZ_t (D + 1) (by omega)]; omega
  · rw [zZ_f (D + 0 + 1) (by omega), zZ_t (D + 355) (by omega), zZ_t (D - 383) (by omega), if_neg (by omega), if_neg (by omega), if_pos (by omega), zZ_f (D + 1) (by omega)]; omega
  · rw [zZ_t (D + 0 + 1) (by omega), zZ_f (D + 355) (by omega), zZ_f (D - 383) (by omega), if_neg (by omega), if_neg (by omega), if_pos (by omega), zZ_t (D + 1) (by omega)]; omega
theorem core_12_13 (D P : Int) (h0 : 0 ≤ P) (h1 : P < 25920) : wW (25920 * D + P) 12 13 = vV 12 13 D P := by
  by_cases c0 : P < 9924
  · exact core_12_13_0 D P (by omega) c0
  by_cases c1 : P < 16404
  · exact core_12_13_1 D P (by omega) c1
  by_cases c2 : P < 16789
  · exact core_12_13_2 D P (by omega) c2
  by_cases c3 : P < 19440
  · exact core_12_13_3 D P (by omega) c3
  by_cases c4 : P < 23269
  · exact core_12_13_4 D P (by omega) c4
  exact core_12_13_5 D P (by omega) h1
theorem core_13_12_0 (D P : Int) (h0 : 0 ≤ P) (h1 : P < 2651) : wW (25920 * D + P) 13 12 = vV 13 12 D P := by
  have hr : D % 7 = 0 ∨ D % 7 = 1 ∨ D % 7 = 2 ∨ D % 7 = 3 ∨ D % 7 = 4 ∨ D % 7 = 5 ∨ D % 7 = 6 := by omega
  unfold wW vV
  rw [aA_lo (25920 * D + P) (D + 0) (25920 * D + P - 25920 * (D + 0)) (by omega) (by omega) (by omega), aA_hi (25920 * D + P + 765433 * 13) (D + 383) (25920 * D + P + 765433 * 13 - 25920 * (D + 383)) (by omega) (by omega) (by omega), aA_lo (25920 * D + P - 765433 * 12) (D - 355) (25920 * D + P - 765433 * 12 - 25920 * (D - 355)) (by omega) (by omega) (by omega)]
  rcases hr with hr | hr | hr | hr | hr | hr | hr
  · rw [zZ_t (D + 0) (by omega), zZ_f (D + 383 + 1) (by omega), zZ_f (D - 355) (by omega), if_neg (by omega), if_neg (by omega), if_neg (by omega), if_neg (by omega), if_neg (by omega), zZ_t D (by omega)]; omega
  · rw [zZ_f (D + 0) (by omega), zZ_t (D + 383 + 1) (by omega), zZ_t (D - 355) (by omega), if_neg (by omega), if_neg (by omega), if_neg (by omega), if_neg (by omega), if_neg (by omega), zZ_f D (by omega)]; omega
  · rw [zZ_f (D + 0) (by omega), zZ_f (D + 383 + 1) (by omega), zZ_f (D - 355) (by omega), if_neg (by omega), if_neg (by omega), if_neg (by omega), if_neg (by omega), if_neg (by omega), zZ_f D (by omega)]; omega
  · rw [zZ_t (D + 0) (by omega), zZ_f (D + 383 + 1) (by omega), zZ_t (D - 355) (by omega), if_neg (by omega), if_neg (by omega), if_neg (by omega), if_neg (by omega), if_neg (by omega), zZ_t D (by omega)]; omega
  · rw [zZ_f (D + 0) (by omega), zZ_t (D + 383 + 1) (by omega), zZ_f (D - 355) (by omega), if_neg (by omega), if_neg (by omega), if_neg (by omega), if_neg (by omega), if_neg (by omega), zZ_f D (by omega)]; omega
  · rw [zZ_t (D + 0) (by omega), zZ_f (D + 383 + 1) (by omega), zZ_t (D - 355) (by omega), if_neg (by omega), if_neg (by omega), if_neg (by omega), if_neg (by omega), if_neg (by omega), zZ_t D (by omega)]; omega
  · rw [zZ_f (D + 0) (by omega), zZ_t (D + 383 + 1) (by omega), zZ_f (D - 355) (by omega), if_neg (by omega), if_neg (by omega), if_neg (by omega), if_neg (by omega), if_neg (by omega), zZ_f D (by omega)]; omega
theorem core_13_12_1 (D P : Int) (h0 : 2651 ≤ P) (h1 : P < 3036) : wW (25920 * D + P) 13 12 = vV 13 12 D P := by
  have hr : D % 7 = 0 ∨ D % 7 = 1 ∨ D % 7 = 2 ∨ D % 7 = 3 ∨ D % 7 = 4 ∨ D % 7 = 5 ∨ D % 7 = 6 := by omega
  unfold wW vV
  rw [aA_lo (25920 * D + P) (D + 0) (25920 * D + P - 25920 * (D + 0)) (by omega) (by omega) (by omega), aA_lo (25920 * D + P + 765433 * 13) (D + 384) (25920 * D + P + 765433 * 13 - 25920 * (D + 384)) (by omega) (by omega) (by omega), aA_lo (25920 * D + P - 765433 * 12) (D - 355) (25920 * D + P - 765433 * 12 - 25920 * (D - 355)) (by omega) (by omega) (by omega)]
  rcases hr with hr | hr | hr | hr | hr | hr | hr
  · rw [zZ_t (D + 0) (by omega), zZ_f (D + 384) (by omega), zZ_f (D - 355) (by omega), if_neg (by omega), if_neg (by omega), if_neg (by omega), if_neg (by omega), if_neg (by omega), zZ_t D (by omega)]; omega
  · rw [zZ_f (D + 0) (by omega), zZ_t (D + 384) (by omega), zZ_t (D - 355) (by omega), if_neg (by omega), if_neg (by omega), if_neg (by omega), if_neg (by omega), if_neg (by omega), zZ_f D (by omega)]; omega
  · rw [zZ_f (D + 0) (by omega), zZ_f (D + 384) (by omega), zZ_f (D - 355) (by omega), if_neg (by omega), if_neg (by omega), if_neg (by omega), if_neg (by omega), if_neg (by omega), zZ_f D (by omega)]; omega
  · rw [zZ_t (D + 0) (by omega), zZ_f (D + 384) (by omega), zZ_t (D - 355) (by omega), if_neg (by omega), if_neg (by omega), if_neg (by omega), if_neg (by omega), if_neg (by omega), zZ_t D (by omega)]; omega
  · rw [zZ_f (D + 0) (by omega), zZ_t (D + 384) (by omega), zZ_f (D - 355) (by omega), if_neg (by omega), if_neg (by omega), if_neg (by omega), if_neg (by omega), if_neg (by omega), zZ_f D (by omega)]; omega
  · rw [zZ_t (D + 0) (by omega), zZ_f (D + 384) (by omega), zZ_t (D - 355) (by omega), if_neg (by omega), if_neg (by omega), if_neg (by omega), if_neg (by omega), if_neg (by omega), zZ_t D (by omega)]; omega
  · rw [zZ_f (D + 0) (by omega), zZ_t (D + 384) (by omega), zZ_f (D - 355) (by omega), if_neg (by omega), if_neg (by omega), if_neg (by omega), if_neg (by omega), if_neg (by omega), zZ_f D (by omega)]; omega
theorem core_13_12_2 (D P : Int) (h0 : 3036 ≤ P) (h1 : P < 9516) : wW (25920 * D + P) 13 12 = vV 13 12 D P := by
  have hr : D % 7 = 0 ∨ D % 7 = 1 ∨ D % 7 = 2 ∨ D % 7 = 3 ∨ D % 7 = 4 ∨ D % 7 = 5 ∨ D % 7 = 6 := by omega
  unfold wW vV
  rw [aA_lo (25920 * D + P) (D + 0) (25920 * D + P - 25920 * (D + 0)) (by omega) (by omega) (by omega), aA_lo (25920 * D + P + 765433 * 13) (D + 384) (25920 * D + P + 765433 * 13 - 25920 * (D + 384)) (by omega) (by omega) (by omega), aA_hi (25920 * D + P - 765433 * 12) (D - 355) (25920 * D + P - 765433 * 12 - 25920 * (D - 355)) (by omega) (by omega) (by omega)]
  rcases hr with hr | hr | hr | hr | hr | hr | hr
  · rw [zZ_t (D + 0) (by omega), zZ_f (D + 384) (by omega), zZ_t (D - 355 + 1) (by omega), if_neg (by omega), if_neg (by omega), if_neg (by omega), if_neg (by omega), if_neg (by omega), zZ_t D (by omega)]; omega
  · rw [zZ_f (D + 0) (by omega), zZ_t (D + 384) (by omega), zZ_f (D - 355 + 1) (by omega), if_neg (by omega), if_neg (by omega), if_neg (by omega), if_neg (by omega), if_neg (by omega), zZ_f D (by omega)]; omega
  · rw [zZ_f (D + 0) (by omega), zZ_f (D + 384) (by omega), zZ_t (D - 355 + 1) (by omega), if_neg (by omega), if_neg (by omega), if_neg (by omega), if_neg (by omega), if_neg (by omega), zZ_f D (by omega)]; omega
  · rw [zZ_t (D + 0) (by omega), zZ_f (D + 384) (by omega), zZ_f (D - 355 + 1) (by omega), if_neg (by omega), if_neg (by omega), if_neg (by omega), if_neg (by omega), if_neg (by omega), zZ_t D (by omega)]; omega
  · rw [zZ_f (D + 0) (by omega), zZ_t (D + 384) (by omega), zZ_t (D - 355 + 1) (by omega), if_neg (by omega), if_neg (by omega), if_neg (by omega), if_neg (by omega), if_neg (by omega), zZ_f D (by omega)]; omega
  · rw [zZ_t (D + 0) (by omega), zZ_f (D + 384) (by omega), zZ_f (D - 355 + 1) (by omega), if_neg (by omega), if_neg (by omega), if_neg (by omega), if_neg (by omega), if_neg (by omega), zZ_t D (by omega)]; omega
  · rw [zZ_f (D + 0) (by omega), zZ_t (D + 384) (by omega), zZ_f (D - 355 + 1) (by omega), if_neg (by omega), if_neg (by omega), if_neg (by omega), if_neg (by omega), if_neg (by omega), zZ_f D (by omega)]; omega
theorem core_13_12_3 (D P : Int) (h0 : 9516 ≤ P) (h1 : P < 19440) : wW (25920 * D + P) 13 12 = vV 13 12 D P := by
  have hr : D % 7 = 0 ∨ D % 7 = 1 ∨ D % 7 = 2 ∨ D % 7 = 3 ∨ D % 7 = 4 ∨ D % 7 = 5 ∨ D % 7 = 6 := by omega
  unfold wW vV
  rw [aA_lo (25920 * D + P) (D + 0) (25920 * D + P - 25920 * (D + 0)) (by omega) (by omega) (by omega), aA_lo (25920 * D + P + 765433 * 13) (D + 384) (25920 * D + P + 765433 * 13 - 25920 * (D + 384)) (by omega) (by omega) (by omega), aA_lo (25920 * D + P - 765433 * 12) (D - 354) (25920 * D + P - 765433 * 12 - 25920 * (D - 354)) (by omega) (by omega) (by omega)]
  rcases hr with hr | hr | hr | hr | hr | hr | hr
  · rw [zZ_t (D + 0) (by omega), zZ_f (D + 384) (by omega), zZ_t (D - 354) (by omega), if_neg (by omega), if_neg (by omega), if_neg (by omega), if_neg (by omega), if_neg (by omega), zZ_t D (by omega)]; omega
  · rw [zZ_f (D + 0) (by omega), zZ_t (D + 384) (by omega), zZ_f (D - 354) (by omega), if_neg (by omega), if_neg (by omega), if_neg (by omega), if_neg (by omega), if_neg (by omega), zZ_f D (by omega)]; omega
  · rw [zZ_f (D + 0) (by omega), zZ_f (D + 384) (by omega), zZ_t (D - 354) (by omega), if_neg (by omega), if_neg (by omega), if_neg (by omega), if_neg (by omega), if_neg (by omega), zZ_f D (by omega)]; omega
  · rw [zZ_t (D + 0) (by omega), zZ_f (D + 384) (by omega), zZ_f (D - 354) (by omega), if_neg (by omega), if_neg (by omega), if_neg (by omega), if_neg (by omega), if_neg (by omega), zZ_t D (by omega)]; omega
  · rw [zZ_f (D + 0) (by omega), zZ_t (D + 384) (by omega), zZ_t (D - 354) (by omega), if_neg (by omega), if_neg (by omega), if_neg (by omega), if_neg (by omega), if_neg (by omega), zZ_f D (by omega)]; omega
  · rw [zZ_t (D + 0) (by omega), zZ_f (D + 384) (by omega), zZ_f (D - 354) (by omega), if_neg (by omega), if_neg (by omega), if_neg (by omega), if_neg (by omega), if_neg (by omega), zZ_t D (by omega)]; omega
  · rw [zZ_f (D + 0) (by omega), zZ_t (D + 384) (by omega), zZ_f (D - 354) (by omega), if_neg (by omega), if_neg (by omega), if_neg (by omega), if_neg (by omega), if_neg (by omega), zZ_f D (by omega)]; omega
theorem core_13_12_4 (D P : Int) (h0 : 19440 ≤ P) (h1 : P < 22091) : wW (25920 * D + P) 13 12 = vV 13 12 D P := by
  have hr : D % 7 = 0 ∨ D % 7 = 1 ∨ D % 7 = 2 ∨ D % 7 = 3 ∨ D % 7 = 4 ∨ D % 7 = 5 ∨ D % 7 = 6 := by omega
  unfold wW vV
  rw [aA_hi (25920 * D + P) (D + 0) (25920 * D + P - 25920 * (D + 0)) (by omega) (by omega) (by omega), aA_lo (25920 * D + P + 765433 * 13) (D + 384) (25920 * D + P + 765433 * 13 - 25920 * (D + 384)) (by omega) (by omega) (by omega), aA_lo (25920 * D + P - 765433 * 12) (D - 354) (25920 * D + P - 765433 * 12 - 25920 * (D - 354)) (by omega) (by omega) (by omega)]
  rcases hr with hr | hr | hr | hr | hr | hr | hr
  · rw [zZ_f (D + 0 + 1) (by omega), zZ_f (D + 384) (by omega), zZ_t (D - 354) (by omega), if_neg (by omega), if_neg (by omega), if_pos (by omega), zZ_f (D + 1) (by omega)]; omega
  · rw [zZ_f (D + 0 + 1) (by omega), zZ_t (D + 384) (by omega), zZ_f (D - 354) (by omega), if_neg (by omega), if_neg (by omega), if_pos (by omega), zZ_f (D + 1) (by omega)]; omega
  · rw [zZ_t (D + 0 + 1) (by omega), zZ_f (D + 384) (by omega), zZ_t (D - 354) (by omega), if_neg (by omega), if_neg (by omega), if_pos (by omega), zZ_t (D + 1) (by omega)]; omega
  · rw [zZ_f (D + 0 + 1) (by omega), zZ_f (D + 384) (by omega), zZ_f (D - 354) (by omega), if_neg (by omega), if_neg (by omega), if_pos (by omega), zZ_f (D + 1) (by omega)]; omega
  · rw [zZ_t (D + 0 + 1) (by omega), zZ_t (D + 384) (by omega), zZ_t (D - 354) (by omega), if_neg (by omega), if_neg (by omega), if_pos (by omega), zZ_t (D + 1) (by omega)]; omega
  · rw [zZ_f (D + 0 + 1) (by omega), zZ_f (D + 384) (by omega), zZ_f (D - 354) (by omega), if_neg (by omega), if_neg (by omega), if_pos (by omega), zZ_f (D + 1) (by omega)]; omega
  · rw [zZ_t (D + 0 + 1) (by omega), zZ_t (D + 384) (by omega), zZ_f (D - 354) (by omega), if_neg (by omega), if_neg (by omega), if_pos (by omega), zZ_t (D + 1) (by omega)]; omega
theorem core_13_12_5 (D P : Int) (h0 : 22091 ≤ P) (h1 : P < 25920) : wW (25920 * D + P) 13 12 = vV 13 12 D P := by
  have hr : D % 7 = 0 ∨ D % 7 = 1 ∨ D % 7 = 2 ∨ D % 7 = 3 ∨ D % 7 = 4 ∨ D % 7 = 5 ∨ D % 7 = 6 := by omega
  unfold wW vV
  rw [aA_hi (25920 * D + P) (D + 0) (25920 * D + P - 25920 * (D + 0)) (by omega) (by omega) (by omega), aA_hi (25920 * D + P + 765433 * 13) (D + 384) (25920 * D + P + 765433 * 13 - 25920 * (D + 384)) (by omega) (by omega) (by omega), aA_lo (25920 * D + P - 765433 * 12) (D - 354) (25920 * D + P - 765433 * 12 - 25920 * (D - 354)) (by omega) (by omega) (by omega)]
  rcases hr with hr | hr | hr | hr | hr | hr | hr
  · rw [zZ_f (D + 0 + 1) (by omega), zZ_t (D + 384 + 1) (by omega), zZ_t (D - 354) (by omega), if_neg (by omega), if_neg (by omega), if_pos (by omega), zZ_f (D + 1) (by omega)]; omega
  · rw [zZ_f (D + 0 + 1) (by omega), zZ_f (D + 384 + 1) (by omega), zZ_f (D - 354) (by omega), if_neg (by omega), if_neg (by omega), if_pos (by omega), zZ_f (D + 1) (by omega)]; omega
  · rw [zZ_t (D + 0 + 1) (by omega), zZ_f (D + 384 + 1) (by omega), zZ_t (D - 354) (by omega), if_neg (by omega), if_neg (by omega), if_pos (by omega), zZ_t (D + 1) (by omega)]; omega
  · rw [zZ_f (D + 0 + 1) (by omega), zZ_t (D + 384 + 1) (by omega), zZ_f (D - 354) (by omega), if_neg (by omega), if_neg (by omega), if_pos (by omega), zZ_f (D + 1) (by omega)]; omega
  · rw [zZ_t (D + 0 + 1) (by omega), zZ_f (D + 384 + 1) (by omega), zZ_t (D - 354) (by omega), if_neg (by omega), if_neg (by omega), if_pos (by omega), zZ_t (D + 1) (by omega)]; omega
  · rw [zZ_f (D + 0 + 1) (by omega), zZ_t (D + 384 + 1) (by omega), zZ_f (D - 354) (by omega), if_neg (by omega), if_neg (by omega), if_pos (by omega), zZ_f (D + 1) (by omega)]; omega
  · rw [zZ_t (D + 0 + 1) (by omega), zZ_f (D + 384 + 1) (by omega), zZ_f (D - 354) (by omega), if_neg (by omega), if_neg (by omega), if_pos (by omega), zZ_t (D + 1) (by omega)]; omega
theorem core_13_12 (D P : Int) (h0 : 0 ≤ P) (h1 : P < 25920) : wW (25920 * D + P) 13 12 = vV 13 12 D P := by
  by_cases c0 : P < 2651
  · exact core_13_12_0 D P (by omega) c0
  by_cases c1 : P < 3036
  · exact core_13_12_1 D P (by omega) c1
  by_cases c2 : P < 9516
  · exact core_13_12_2 D P (by omega) c2
  by_cases c3 : P < 19440
  · exact core_13_12_3 D P (by omega) c3
  by_cases c4 : P < 22091
  · exact core_13_12_4 D P (by omega) c4
  exact core_13_12_5 D P (by omega) h1
end Mine
namespace Mine
open PySem PySem.W PyProof.Rows
theorem len_12_12_13_0 (D P : Int) (h0 : 0 ≤ P) (h1 : P < 9924) : vV 13 12 (D + 354) (P + (9516)) - vV 12 12 D P = 353 ∨ vV 13 12 (D + 354) (P + (9516)) - vV 12 12 D P = 354 ∨ vV 13 12 (D + 354) (P + (9516)) - vV 12 12 D P = 355 := by
  have hr : D % 7 = 0 ∨ D % 7 = 1 ∨ D % 7 = 2 ∨ D % 7 = 3 ∨ D % 7 = 4 ∨ D % 7 = 5 ∨ D % 7 = 6 := by omega
  rcases hr with hr | hr | hr | hr | hr | hr | hr
  · have e1 : vV 13 12 (D + 354) (P + (9516)) = D + 354 := by
      unfold vV; rw [if_neg (by omega), if_neg (by omega), if_neg (by omega), zZ_f (D + 354) (by omega)]; try omega
    have e2 : vV 12 12 D P = D + 1 := by
      unfold vV; rw [if_neg (by omega), if_neg (by omega), if_neg (by omega), zZ_t D (by omega)]; try omega
    rw [e1, e2]; try omega
  · have e1 : vV 13 12 (D + 354) (P + (9516)) = D + 355 := by
      unfold vV; rw [if_neg (by omega), if_neg (by omega), if_neg (by omega), zZ_t (D + 354) (by omega)]; try omega
    have e2 : vV 12 12 D P = D + 0 := by
      unfold vV; rw [if_neg (by omega), if_neg (by omega), if_neg (by omega), zZ_f D (by omega)]; try omega
    rw [e1, e2]; try omega
  · have e1 : vV 13 12 (D + 354) (P + (9516)) = D + 354 := by
      unfold vV; rw [if_neg (by omega), if_neg (by omega), if_neg (by omega), zZ_f (D + 354) (by omega)]; try omega
    have e2 : vV 12 12 D P = D + 0 := by
      unfold vV; rw [if_neg (by omega), if_neg (by omega), if_neg (by omega), zZ_f D (by omega)]; try omega
    rw [e1, e2]; try omega
  · have e1 : vV 13 12 (D + 354) (P + (9516)) = D + 355 := by
      unfold vV; rw [if_neg (by omega), if_neg (by omega), if_neg (by omega), zZ_t (D + 354) (by omega)]; try omega
    have e2 : vV 12 12 D P = D + 1 := by
      unfold vV; rw [if_neg (by omega), if_neg (by omega), if_neg (by omega), zZ_t D (by omega)]; try omega
    rw [e1, e2]; try omega
  · have e1 : vV 13 12 (D + 354) (P + (9516)) = D + 354 := by
      unfold vV; rw [if_neg (by omega), if_neg (by omega), if_neg (by omega), zZ_f (D + 354) (by omega)]; try omega
    have e2 : vV 12 12 D P = D + 0 := by
      unfold vV; rw [if_neg (by omega), if_neg (by omega), if_neg (by omega), zZ_f D (by omega)]; try omega
    rw [e1, e2]; try omega
  · have e1 : vV 13 12 (D + 354) (P + (9516)) = D + 354 := by
      unfold vV; rw [if_neg (by omega), if_neg (by omega), if_neg (by omega), zZ_f (D + 354) (by omega)]; try omega
    have e2 : vV 12 12 D P = D + 1 := by
      unfold vV; rw [if_neg (by omega), if_neg (by omega), if_neg (by omega), zZ_t D (by omega)]; try omega
    rw [e1, e2]; try omega
  · have e1 : vV 13 12 (D + 354) (P + (9516)) = D + 355 := by
      unfold vV; rw [if_neg (by omega), if_neg (by omega), if_neg (by omega), zZ_t (D + 354) (by omega)]; try omega
    have e2 : vV 12 12 D P = D + 0 := by
      unfold vV; rw [if_neg (by omega), if_neg (by omega), if_neg (by omega), zZ_f D (by omega)]; try omega
    rw [e1, e2]; try omega
theorem len_12_12_13_1 (D P : Int) (h0 : 9924 ≤ P) (h1 : P < 16404) : vV 13 12 (D + 354) (P + (9516)) - vV 12 12 D P = 353 ∨ vV 13 12 (D + 354) (P + (9516)) - vV 12 12 D P = 354 ∨ vV 13 12 (D + 354) (P + (9516)) - vV 12 12 D P = 355 := by
  have hr : D % 7 = 0 ∨ D % 7 = 1 ∨ D % 7 = 2 ∨ D % 7 = 3 ∨ D % 7 = 4 ∨ D % 7 = 5 ∨ D % 7 = 6 := by omega
  rcases hr with hr | hr | hr | hr | hr | hr | hr
  · have e1 : vV 13 12 (D + 354) (P + (9516)) = D + 356 := by
      unfold vV; rw [if_pos (by omega), zZ_t ((D + 354) + 1) (by omega)]; try omega
    have e2 : vV 12 12 D P = D + 1 := by
      unfold vV; rw [if_neg (by omega), if_neg (by omega), if_neg (by omega), zZ_t D (by omega)]; try omega
    rw [e1, e2]; try omega
  · have e1 : vV 13 12 (D + 354) (P + (9516)) = D + 355 := by
      unfold vV; rw [if_pos (by omega), zZ_f ((D + 354) + 1) (by omega)]; try omega
    have e2 : vV 12 12 D P = D + 0 := by
      unfold vV; rw [if_neg (by omega), if_neg (by omega), if_neg (by omega), zZ_f D (by omega)]; try omega
    rw [e1, e2]; try omega
  · have e1 : vV 13 12 (D + 354) (P + (9516)) = D + 356 := by
      unfold vV; rw [if_pos (by omega), zZ_t ((D + 354) + 1) (by omega)]; try omega
    have e2 : vV 12 12 D P = D + 2 := by
      unfold vV; rw [if_neg (by omega), if_pos (by omega), zZ_t (D + 1) (by omega)]; try omega
    rw [e1, e2]; try omega
  · have e1 : vV 13 12 (D + 354) (P + (9516)) = D + 355 := by
      unfold vV; rw [if_pos (by omega), zZ_f ((D + 354) + 1) (by omega)]; try omega
    have e2 : vV 12 12 D P = D + 1 := by
      unfold vV; rw [if_neg (by omega), if_neg (by omega), if_neg (by omega), zZ_t D (by omega)]; try omega
    rw [e1, e2]; try omega
  · have e1 : vV 13 12 (D + 354) (P + (9516)) = D + 355 := by
      unfold vV; rw [if_pos (by omega), zZ_f ((D + 354) + 1) (by omega)]; try omega
    have e2 : vV 12 12 D P = D + 0 := by
      unfold vV; rw [if_neg (by omega), if_neg (by omega), if_neg (by omega), zZ_f D (by omega)]; try omega
    rw [e1, e2]; try omega
  · have e1 : vV 13 12 (D + 354) (P + (9516)) = D + 356 := by
      unfold vV; rw [if_pos (by omega), zZ_t ((D + 354) + 1) (by omega)]; try omega
    have e2 : vV 12 12 D P = D + 1 := by
      unfold vV; rw [if_neg (by omega), if_neg (by omega), if_neg (by omega), zZ_t D (by omega)]; try omega
    rw [e1, e2]; try omega
  · have e1 : vV 13 12 (D + 354) (P + (9516)) = D + 355 := by
      unfold vV; rw [if_pos (by omega), zZ_f ((D + 354) + 1) (by omega)]; try omega
    have e2 : vV 12 12 D P = D + 0 := by
      unfold vV; rw [if_neg (by omega), if_neg (by omega), if_neg (by omega), zZ_f D (by omega)]; try omega
    rw [e1, e2]; try omega
theorem len_12_12_13_2 (D P : Int) (h0 : 16404 ≤ P) (h1 : P < 19440) : vV 13 12 (D + 355) (P + (-16404)) - vV 12 12 D P = 353 ∨ vV 13 12 (D + 355) (P + (-16404)) - vV 12 12 D P = 354 ∨ vV 13 12 (D + 355) (P + (-16404)) - vV 12 12 D P = 355 := by
  have hr : D % 7 = 0 ∨ D % 7 = 1 ∨ D % 7 = 2 ∨ D % 7 = 3 ∨ D % 7 = 4 ∨ D % 7 = 5 ∨ D % 7 = 6 := by omega
  rcases hr with hr | hr | hr | hr | hr | hr | hr
  · have e1 : vV 13 12 (D + 355) (P + (-16404)) = D + 356 := by
      unfold vV; rw [if_neg (by omega), if_neg (by omega), if_neg (by omega), zZ_t (D + 355) (by omega)]; try omega
    have e2 : vV 12 12 D P = D + 1 := by
      unfold vV; rw [if_neg (by omega), if_neg (by omega), if_neg (by omega), zZ_t D (by omega)]; try omega
    rw [e1, e2]; try omega
  · have e1 : vV 13 12 (D + 355) (P + (-16404)) = D + 355 := by
      unfold vV; rw [if_neg (by omega), if_neg (by omega), if_neg (by omega), zZ_f (D + 355) (by omega)]; try omega
    have e2 : vV 12 12 D P = D + 0 := by
      unfold vV; rw [if_neg (by omega), if_neg (by omega), if_neg (by omega), zZ_f D (by omega)]; try omega
    rw [e1, e2]; try omega
  · have e1 : vV 13 12 (D + 355) (P + (-16404)) = D + 356 := by
      unfold vV; rw [if_neg (by omega), if_neg (by omega), if_neg (by omega), zZ_t (D + 355) (by omega)]; try omega
    have e2 : vV 12 12 D P = D + 2 := by
      unfold vV; rw [if_neg (by omega), if_pos (by omega), zZ_t (D + 1) (by omega)]; try omega
    rw [e1, e2]; try omega
  · have e1 : vV 13 12 (D + 355) (P + (-16404)) = D + 355 := by
      unfold vV; rw [if_neg (by omega), if_neg (by omega), if_neg (by omega), zZ_f (D + 355) (by omega)]; try omega
    have e2 : vV 12 12 D P = D + 1 := by
      unfold vV; rw [if_neg (by omega), if_neg (by omega), if_neg (by omega), zZ_t D (by omega)]; try omega
    rw [e1, e2]; try omega
  · have e1 : vV 13 12 (D + 355) (P + (-16404)) = D + 355 := by
      unfold vV; rw [if_neg (by omega), if_neg (by omega), if_neg (by omega), zZ_f (D + 355) (by omega)]; try omega
    have e2 : vV 12 12 D P = D + 0 := by
      unfold vV; rw [if_neg (by omega), if_neg (by omega), if_neg (by omega), zZ_f D (by omega)]; try omega
    rw [e1, e2]; try omega
  · have e1 : vV 13 12 (D + 355) (P + (-16404)) = D + 356 := by
      unfold vV; rw [if_neg (by omega), if_neg (by omega), if_neg (by omega), zZ_t (D + 355) (by omega)]; try omega
    have e2 : vV 12 12 D P = D + 1 := by
      unfold vV; rw [if_neg (by omega), if_neg (by omega), if_neg (by omega), zZ_t D (by omega)]; try omega
    rw [e1, e2]; try omega
  · have e1 : vV 13 12 (D + 355) (P + (-16404)) = D + 355 := by
      unfold vV; rw [if_neg (by omega), if_neg (by omega), if_neg (by omega), zZ_f (D + 355) (by omega)]; try omega
    have e2 : vV 12 12 D P = D + 0 := by
      unfold vV; rw [if_neg (by omega), if_neg (by omega), if_neg (by omega), zZ_f D (by omega)]; try omega
    rw [e1, e2]; try omega
theorem len_12_12_13_3 (D P : Int) (h0 : 19440 ≤ P) (h1 : P < 25920) : vV 13 12 (D + 355) (P + (-16404)) - vV 12 12 D P = 353 ∨ vV 13 12 (D + 355) (P + (-16404)) - vV 12 12 D P = 354 ∨ vV 13 12 (D + 355) (P + (-16404)) - vV 12 12 D P = 355 := by
  have hr : D % 7 = 0 ∨ D % 7 = 1 ∨ D % 7 = 2 ∨ D % 7 = 3 ∨ D % 7 = 4 ∨ D % 7 = 5 ∨ D % 7 = 6 := by omega
  rcases hr with hr | hr | hr | hr | hr | hr | hr
  · have e1 : vV 13 12 (D + 355) (P + (-16404)) = D + 356 := by
      unfold vV; rw [if_neg (by omega), if_neg (by omega), if_neg (by omega), zZ_t (D + 355) (by omega)]; try omega
    have e2 : vV 12 12 D P = D + 1 := by
      unfold vV; rw [if_pos (by omega), zZ_f (D + 1) (by omega)]; try omega
    rw [e1, e2]; try omega
  · have e1 : vV 13 12 (D + 355) (P + (-16404)) = D + 355 := by
      unfold vV; rw [if_neg (by omega), if_neg (by omega), if_neg (by omega), zZ_f (D + 355) (by omega)]; try omega
    have e2 : vV 12 12 D P = D + 1 := by
      unfold vV; rw [if_pos (by omega), zZ_f (D + 1) (by omega)]; try omega
    rw [e1, e2]; try omega
  · have e1 : vV 13 12 (D + 355) (P + (-16404)) = D + 356 := by
      unfold vV; rw [if_neg (by omega), if_neg (by omega), if_neg (by omega), zZ_t (D + 355) (by omega)]; try omega
    have e2 : vV 12 12 D P = D + 2 := by
      unfold vV; rw [if_pos (by omega), zZ_t (D + 1) (by omega)]; try omega
    rw [e1, e2]; try omega
  · have e1 : vV 13 12 (D + 355) (P + (-16404)) = D + 355 := by
      unfold vV; rw [if_neg (by omega), if_neg (by omega), if_neg (by omega), zZ_f (D + 355) (by omega)]; try omega
    have e2 : vV 12 12 D P = D + 1 := by
      unfold vV; rw [if_pos (by omega), zZ_f (D + 1) (by omega)]; try omega
    rw [e1, e2]; try omega
  · have e1 : vV 13 12 (D + 355) (P + (-16404)) = D + 355 := by
      unfold vV; rw [if_neg (by omega), if_neg (by omega), if_neg (by omega), zZ_f (D + 355) (by omega)]; try omega
    have e2 : vV 12 12 D P = D + 2 := by
      unfold vV; rw [if_pos (by omega), zZ_t (D + 1) (by omega)]; try omega
    rw [e1, e2]; try omega
  · have e1 : vV 13 12 (D + 355) (P + (-16404)) = D + 356 := by
      unfold vV; rw [if_neg (by omega), if_neg (by omega), if_neg (by omega), zZ_t (D + 355) (by omega)]; try omega
    have e2 : vV 12 12 D P = D + 1 := by
      unfold vV; rw [if_pos (by omega), zZ_f (D + 1) (by omega)]; try omega
    rw [e1, e2]; try omega
  · have e1 : vV 13 12 (D + 355) (P + (-16404)) = D + 355 := by
      unfold vV; rw [if_neg (by omega), if_neg (by omega), if_neg (by omega), zZ_f (D + 355) (by omega)]; try omega
    have e2 : vV 12 12 D P = D + 2 := by
      unfold vV; rw [if_pos (by omega), zZ_t (D + 1) (by omega)]; try omega
    rw [e1, e2]; try omega
theorem len_12_12_13 (D P : Int) (h0 : 0 ≤ P) (h1 : P < 25920) (D2 P2 : Int) (g0 : 0 ≤ P2) (g1 : P2 < 25920) (hs : 25920 * D2 + P2 = 25920 * D + P + 765433 * 12) : vV 13 12 D2 P2 - vV 12 12 D P = 353 ∨ vV 13 12 D2 P2 - vV 12 12 D P = 354 ∨ vV 13 12 D2 P2 - vV 12 12 D P = 355 := by
  by_cases c0 : P < 9924
  · have q := len_12_12_13_0 D P (by omega) (by omega); rw [show D2 = D + 354 by omega, show P2 = P + (9516) by omega]; exact q
  by_cases c1 : P < 16404
  · have q := len_12_12_13_1 D P (by omega) (by omega); rw [show D2 = D + 354 by omega, show P2 = P + (9516) by omega]; exact q
  by_cases c2 : P < 19440
  · have q := len_12_12_13_2 D P (by omega) (by omega); rw [show D2 = D + 355 by omega, show P2 = P + (-16404) by omega]; exact q
  have q := len_12_12_13_3 D P (by omega) (by omega); rw [show D2 = D + 355 by omega, show P2 = P + (-16404) by omega]; exact q
theorem len_12_13_12_0 (D P : Int) (h0 : 0 ≤ P) (h1 : P < 2651) : vV 12 13 (D + 383) (P + (23269)) - vV 13 12 D P = 383 ∨ vV 12 13 (D + 383) (P + (23269)) - vV 13 12 D P = 384 ∨ vV 12 13 (D + 383) (P + (23269)) - vV 13 12 D P = 385 := by
  have hr : D % 7 = 0 ∨ D % 7 = 1 ∨ D % 7 = 2 ∨ D % 7 = 3 ∨ D % 7 = 4 ∨ D % 7 = 5 ∨ D % 7 = 6 := by omega
  rcases hr with hr | hr | hr | hr | hr | hr | hr
  · have e1 : vV 12 13 (D + 383) (P + (23269)) = D + 384 := by
      unfold vV; rw [if_pos (by omega), zZ_f ((D + 383) + 1) (by omega)]; try omega
    have e2 : vV 13 12 D P = D + 1 := by
      unfold vV; rw [if_neg (by omega), if_neg (by omega), if_neg (by omega), zZ_t D (by omega)]; try omega
    rw [e1, e2]; try omega
  · have e1 : vV 12 13 (D + 383) (P + (23269)) = D + 385 := by
      unfold vV; rw [if_pos (by omega), zZ_t ((D + 383) + 1) (by omega)]; try omega
    have e2 : vV 13 12 D P = D + 0 := by
      unfold vV; rw [if_neg (by omega), if_neg (by omega), if_neg (by omega), zZ_f D (by omega)]; try omega
    rw [e1, e2]; try omega
  · have e1 : vV 12 13 (D + 383) (P + (23269)) = D + 384 := by
      unfold vV; rw [if_pos (by omega), zZ_f ((D + 383) + 1) (by omega)]; try omega
    have e2 : vV 13 12 D P = D + 0 := by
      unfold vV; rw [if_neg (by omega), if_neg (by omega), if_neg (by omega), zZ_f D (by omega)]; try omega
    rw [e1, e2]; try omega
  · have e1 : vV 12 13 (D + 383) (P + (23269)) = D + 384 := by
      unfold vV; rw [if_pos (by omega), zZ_f ((D + 383) + 1) (by omega)]; try omega
    have e2 : vV 13 12 D P = D + 1 := by
      unfold vV; rw [if_neg (by omega), if_neg (by omega), if_neg (by omega), zZ_t D (by omega)]; try omega
    rw [e1, e2]; try omega
  · have e1 : vV 12 13 (D + 383) (P + (23269)) = D + 385 := by
      unfold vV; rw [if_pos (by omega), zZ_t ((D + 383) + 1) (by omega)]; try omega
    have e2 : vV 13 12 D P = D + 0 := by
      unfold vV; rw [if_neg (by omega), if_neg (by omega), if_neg (by omega), zZ_f D (by omega)]; try omega
    rw [e1, e2]; try omega
  · have e1 : vV 12 13 (D + 383) (P + (23269)) = D + 384 := by
      unfold vV; rw [if_pos (by omega), zZ_f ((D + 383) + 1) (by omega)]; try omega
    have e2 : vV 13 12 D P = D + 1 := by
      unfold vV; rw [if_neg (by omega), if_neg (by omega), if_neg (by omega), zZ_t D (by omega)]; try omega
    rw [e1, e2]; try omega
  · have e1 : vV 12 13 (D + 383) (P + (23269)) = D + 385 := by
      unfold vV; rw [if_pos (by omega), zZ_t ((D + 383) + 1) (by omega)]; try omega
    have e2 : vV 13 12 D P = D + 0 := by
      unfold vV; rw [if_neg (by omega), if_neg (by omega), if_neg (by omega), zZ_f D (by omega)]; try omega
    rw [e1, e2]; try omega
theorem len_12_13_12_1 (D P : Int) (h0 : 2651 ≤ P) (h1 : P < 12575) : vV 12 13 (D + 384) (P + (-2651)) - vV 13 12 D P = 383 ∨ vV 12 13 (D + 384) (P + (-2651)) - vV 13 12 D P = 384 ∨ vV 12 13 (D + 384) (P + (-2651)) - vV 13 12 D P = 385 := by
  have hr : D % 7 = 0 ∨ D % 7 = 1 ∨ D % 7 = 2 ∨ D % 7 = 3 ∨ D % 7 = 4 ∨ D % 7 = 5 ∨ D % 7 = 6 := by omega
  rcases hr with hr | hr | hr | hr | hr | hr | hr
  · have e1 : vV 12 13 (D + 384) (P + (-2651)) = D + 384 := by
      unfold vV; rw [if_neg (by omega), if_neg (by omega), if_neg (by omega), zZ_f (D + 384) (by omega)]; try omega
    have e2 : vV 13 12 D P = D + 1 := by
      unfold vV; rw [if_neg (by omega), if_neg (by omega), if_neg (by omega), zZ_t D (by omega)]; try omega
    rw [e1, e2]; try omega
  · have e1 : vV 12 13 (D + 384) (P + (-2651)) = D + 385 := by
      unfold vV; rw [if_neg (by omega), if_neg (by omega), if_neg (by omega), zZ_t (D + 384) (by omega)]; try omega
    have e2 : vV 13 12 D P = D + 0 := by
      unfold vV; rw [if_neg (by omega), if_neg (by omega), if_neg (by omega), zZ_f D (by omega)]; try omega
    rw [e1, e2]; try omega
  · have e1 : vV 12 13 (D + 384) (P + (-2651)) = D + 384 := by
      unfold vV; rw [if_neg (by omega), if_neg (by omega), if_neg (by omega), zZ_f (D + 384) (by omega)]; try omega
    have e2 : vV 13 12 D P = D + 0 := by
      unfold vV; rw [if_neg (by omega), if_neg (by omega), if_neg (by omega), zZ_f D (by omega)]; try omega
    rw [e1, e2]; try omega
  · have e1 : vV 12 13 (D + 384) (P + (-2651)) = D + 384 := by
      unfold vV; rw [if_neg (by omega), if_neg (by omega), if_neg (by omega), zZ_f (D + 384) (by omega)]; try omega
    have e2 : vV 13 12 D P = D + 1 := by
      unfold vV; rw [if_neg (by omega), if_neg (by omega), if_neg (by omega), zZ_t D (by omega)]; try omega
    rw [e1, e2]; try omega
  · have e1 : vV 12 13 (D + 384) (P + (-2651)) = D + 385 := by
      unfold vV; rw [if_neg (by omega), if_neg (by omega), if_neg (by omega), zZ_t (D + 384) (by omega)]; try omega
    have e2 : vV 13 12 D P = D + 0 := by
      unfold vV; rw [if_neg (by omega), if_neg (by omega), if_neg (by omega), zZ_f D (by omega)]; try omega
    rw [e1, e2]; try omega
  · have e1 : vV 12 13 (D + 384) (P + (-2651)) = D + 384 := by
      unfold vV; rw [if_neg (by omega), if_neg (by omega), if_neg (by omega), zZ_f (D + 384) (by omega)]; try omega
    have e2 : vV 13 12 D P = D + 1 := by
      unfold vV; rw [if_neg (by omega), if_neg (by omega), if_neg (by omega), zZ_t D (by omega)]; try omega
    rw [e1, e2]; try omega
  · have e1 : vV 12 13 (D + 384) (P + (-2651)) = D + 385 := by
      unfold vV; rw [if_neg (by omega), if_neg (by omega), if_neg (by omega), zZ_t (D + 384) (by omega)]; try omega
    have e2 : vV 13 12 D P = D + 0 := by
      unfold vV; rw [if_neg (by omega), if_neg (by omega), if_neg (by omega), zZ_f D (by omega)]; try omega
    rw [e1, e2]; try omega
theorem len_12_13_12_2 (D P : Int) (h0 : 12575 ≤ P) (h1 : P < 19440) : vV 12 13 (D + 384) (P + (-2651)) - vV 13 12 D P = 383 ∨ vV 12 13 (D + 384) (P + (-2651)) - vV 13 12 D P = 384 ∨ vV 12 13 (D + 384) (P + (-2651)) - vV 13 12 D P = 385 := by
  have hr : D % 7 = 0 ∨ D % 7 = 1 ∨ D % 7 = 2 ∨ D % 7 = 3 ∨ D % 7 = 4 ∨ D % 7 = 5 ∨ D % 7 = 6 := by omega
  rcases hr with hr | hr | hr | hr | hr | hr | hr
  · have e1 : vV 12 13 (D + 384) (P + (-2651)) = D + 384 := by
      unfold vV; rw [if_neg (by omega), if_neg (by omega), if_neg (by omega), zZ_f (D + 384) (by omega)]; try omega
    have e2 : vV 13 12 D P = D + 1 := by
      unfold vV; rw [if_neg (by omega), if_neg (by omega), if_neg (by omega), zZ_t D (by omega)]; try omega
    rw [e1, e2]; try omega
  · have e1 : vV 12 13 (D + 384) (P + (-2651)) = D + 385 := by
      unfold vV; rw [if_neg (by omega), if_neg (by omega), if_neg (by omega), zZ_t (D + 384) (by omega)]; try omega
    have e2 : vV 13 12 D P = D + 0 := by
      unfold vV; rw [if_neg (by omega), if_neg (by omega), if_neg (by omega), zZ_f D (by omega)]; try omega
    rw [e1, e2]; try omega
  · have e1 : vV 12 13 (D + 384) (P + (-2651)) = D + 384 := by
      unfold vV; rw [if_neg (by omega), if_neg (by omega), if_neg (by omega), zZ_f (D + 384) (by omega)]; try omega
    have e2 : vV 13 12 D P = D + 0 := by
      unfold vV; rw [if_neg (by omega), if_neg (by omega), if_neg (by omega), zZ_f D (by omega)]; try omega
    rw [e1, e2]; try omega
  · have e1 : vV 12 13 (D + 384) (P + (-2651)) = D + 386 := by
      unfold vV; rw [if_neg (by omega), if_pos (by omega), zZ_t ((D + 384) + 1) (by omega)]; try omega
    have e2 : vV 13 12 D P = D + 1 := by
      unfold vV; rw [if_neg (by omega), if_neg (by omega), if_neg (by omega), zZ_t D (by omega)]; try omega
    rw [e1, e2]; try omega
  · have e1 : vV 12 13 (D + 384) (P + (-2651)) = D + 385 := by
      unfold vV; rw [if_neg (by omega), if_neg (by omega), if_neg (by omega), zZ_t (D + 384) (by omega)]; try omega
    have e2 : vV 13 12 D P = D + 0 := by
      unfold vV; rw [if_neg (by omega), if_neg (by omega), if_neg (by omega), zZ_f D (by omega)]; try omega
    rw [e1, e2]; try omega
  · have e1 : vV 12 13 (D + 384) (P + (-2651)) = D + 384 := by
      unfold vV; rw [if_neg (by omega), if_neg (by omega), if_neg (by omega), zZ_f (D + 384) (by omega)]; try omega
    have e2 : vV 13 12 D P = D + 1 := by
      unfold vV; rw [if_neg (by omega), if_neg (by omega), if_neg (by omega), zZ_t D (by omega)]; try omega
    rw [e1, e2]; try omega
  · have e1 : vV 12 13 (D + 384) (P + (-2651)) = D + 385 := by
      unfold vV; rw [if_neg (by omega), if_neg (by omega), if_neg (by omega), zZ_t (D + 384) (by omega)]; try omega
    have e2 : vV 13 12 D P = D + 0 := by
      unfold vV; rw [if_neg (by omega), if_neg (by omega), if_neg (by omega), zZ_f D (by omega)]; try omega
    rw [e1, e2]; try omega
theorem len_12_13_12_3 (D P : Int) (h0 : 19440 ≤ P) (h1 : P < 22091) : vV 12 13 (D + 384) (P + (-2651)) - vV 13 12 D P = 383 ∨ vV 12 13 (D + 384) (P + (-2651)) - vV 13 12 D P = 384 ∨ vV 12 13 (D + 384) (P + (-2651)) - vV 13 12 D P = 385 := by
  have hr : D % 7 = 0 ∨ D % 7 = 1 ∨ D % 7 = 2 ∨ D % 7 = 3 ∨ D % 7 = 4 ∨ D % 7 = 5 ∨ D % 7 = 6 := by omega
  rcases hr with hr | hr | hr | hr | hr | hr | hr
  · have e1 : vV 12 13 (D + 384) (P + (-2651)) = D + 384 := by
      unfold vV; rw [if_neg (by omega), if_neg (by omega), if_neg (by omega), zZ_f (D + 384) (by omega)]; try omega
    have e2 : vV 13 12 D P = D + 1 := by
      unfold vV; rw [if_pos (by omega), zZ_f (D + 1) (by omega)]; try omega
    rw [e1, e2]; try omega
  · have e1 : vV 12 13 (D + 384) (P + (-2651)) = D + 385 := by
      unfold vV; rw [if_neg (by omega), if_neg (by omega), if_neg (by omega), zZ_t (D + 384) (by omega)]; try omega
    have e2 : vV 13 12 D P = D + 1 := by
      unfold vV; rw [if_pos (by omega), zZ_f (D + 1) (by omega)]; try omega
    rw [e1, e2]; try omega
  · have e1 : vV 12 13 (D + 384) (P + (-2651)) = D + 385 := by
      unfold vV; rw [if_neg (by omega), if_neg (by omega), if_pos (by omega), zZ_f ((D + 384) + 1) (by omega)]; try omega
    have e2 : vV 13 12 D P = D + 2 := by
      unfold vV; rw [if_pos (by omega), zZ_t (D + 1) (by omega)]; try omega
    rw [e1, e2]; try omega
  · have e1 : vV 12 13 (D + 384) (P + (-2651)) = D + 386 := by
      unfold vV; rw [if_neg (by omega), if_pos (by omega), zZ_t ((D + 384) + 1) (by omega)]; try omega
    have e2 : vV 13 12 D P = D + 1 := by
      unfold vV; rw [if_pos (by omega), zZ_f (D + 1) (by omega)]; try omega
    rw [e1, e2]; try omega
  · have e1 : vV 12 13 (D + 384) (P + (-2651)) = D + 385 := by
      unfold vV; rw [if_neg (by omega), if_neg (by omega), if_neg (by omega), zZ_t (D + 384) (by omega)]; try omega
    have e2 : vV 13 12 D P = D + 2 := by
      unfold vV; rw [if_pos (by omega), zZ_t (D + 1) (by omega)]; try omega
    rw [e1, e2]; try omega
  · have e1 : vV 12 13 (D + 384) (P + (-2651)) = D + 384 := by
      unfold vV; rw [if_neg (by omega), if_neg (by omega), if_neg (by omega), zZ_f (D + 384) (by omega)]; try omega
    have e2 : vV 13 12 D P = D + 1 := by
      unfold vV; rw [if_pos (by omega), zZ_f (D + 1) (by omega)]; try omega
    rw [e1, e2]; try omega
  · have e1 : vV 12 13 (D + 384) (P + (-2651)) = D + 385 := by
      unfold vV; rw [if_neg (by omega), if_neg (by omega), if_neg (by omega), zZ_t (D + 384) (by omega)]; try omega
    have e2 : vV 13 12 D P = D + 2 := by
      unfold vV; rw [if_pos (by omega), zZ_t (D + 1) (by omega)]; try omega
    rw [e1, e2]; try omega
theorem len_12_13_12_4 (D P : Int) (h0 : 22091 ≤ P) (h1 : P < 25920) : vV 12 13 (D + 384) (P + (-2651)) - vV 13 12 D P = 383 ∨ vV 12 13 (D + 384) (P + (-2651)) - vV 13 12 D P = 384 ∨ vV 12 13 (D + 384) (P + (-2651)) - vV 13 12 D P = 385 := by
  have hr : D % 7 = 0 ∨ D % 7 = 1 ∨ D % 7 = 2 ∨ D % 7 = 3 ∨ D % 7 = 4 ∨ D % 7 = 5 ∨ D % 7 = 6 := by omega
  rcases hr with hr | hr | hr | hr | hr | hr | hr
  · have e1 : vV 12 13 (D + 384) (P + (-2651)) = D + 386 := by
      unfold vV; rw [if_pos (by omega), zZ_t ((D + 384) + 1) (by omega)]; try omega
    have e2 : vV 13 12 D P = D + 1 := by
      unfold vV; rw [if_pos (by omega), zZ_f (D + 1) (by omega)]; try omega
    rw [e1, e2]; try omega
  · have e1 : vV 12 13 (D + 384) (P + (-2651)) = D + 385 := by
      unfold vV; rw [if_pos (by omega), zZ_f ((D + 384) + 1) (by omega)]; try omega
    have e2 : vV 13 12 D P = D + 1 := by
      unfold vV; rw [if_pos (by omega), zZ_f (D + 1) (by omega)]; try omega
    rw [e1, e2]; try omega
  · have e1 : vV 12 13 (D + 384) (P + (-2651)) = D + 385 := by
      unfold vV; rw [if_pos (by omega), zZ_f ((D + 384) + 1) (by omega)]; try omega
    have e2 : vV 13 12 D P = D + 2 := by
      unfold vV; rw [if_pos (by omega), zZ_t (D + 1) (by omega)]; try omega
    rw [e1, e2]; try omega
  · have e1 : vV 12 13 (D + 384) (P + (-2651)) = D + 386 := by
      unfold vV; rw [if_pos (by omega), zZ_t ((D + 384) + 1) (by omega)]; try omega
    have e2 : vV 13 12 D P = D + 1 := by
      unfold vV; rw [if_pos (by omega), zZ_f (D + 1) (by omega)]; try omega
    rw [e1, e2]; try omega
  · have e1 : vV 12 13 (D + 384) (P + (-2651)) = D + 385 := by
      unfold vV; rw [if_pos (by omega), zZ_f ((D + 384) + 1) (by omega)]; try omega
    have e2 : vV 13 12 D P = D + 2 := by
      unfold vV; rw [if_pos (by omega), zZ_t (D + 1) (by omega)]; try omega
    rw [e1, e2]; try omega
  · have e1 : vV 12 13 (D + 384) (P + (-2651)) = D + 386 := by
      unfold vV; rw [if_pos (by omega), zZ_t ((D + 384) + 1) (by omega)]; try omega
    have e2 : vV 13 12 D P = D + 1 := by
      unfold vV; rw [if_pos (by omega), zZ_f (D + 1) (by omega)]; try omega
    rw [e1, e2]; try omega
  · have e1 : vV 12 13 (D + 384) (P + (-2651)) = D + 385 := by
      unfold vV; rw [if_pos (by omega), zZ_f ((D + 384) + 1) (by omega)]; try omega
    have e2 : vV 13 12 D P = D + 2 := by
      unfold vV; rw [if_pos (by omega), zZ_t (D + 1) (by omega)]; try omega
    rw [e1, e2]; try omega
theorem len_12_13_12 (D P : Int) (h0 : 0 ≤ P) (h1 : P < 25920) (D2 P2 : Int) (g0 : 0 ≤ P2) (g1 : P2 < 25920) (hs : 25920 * D2 + P2 = 25920 * D + P + 765433 * 13) : vV 12 13 D2 P2 - vV 13 12 D P = 383 ∨ vV 12 13 D2 P2 - vV 13 12 D P = 384 ∨ vV 12 13 D2 P2 - vV 13 12 D P = 385 := by
  by_cases c0 : P < 2651
  · have q := len_12_13_12_0 D P (by omega) (by omega); rw [show D2 = D + 383 by omega, show P2 = P + (23269) by omega]; exact q
  by_cases c1 : P < 12575
  · have q := len_12_13_12_1 D P (by omega) (by omega); rw [show D2 = D + 384 by omega, show P2 = P + (-2651) by omega]; exact q
  by_cases c2 : P < 19440
  · have q := len_12_13_12_2 D P (by omega) (by omega); rw [show D2 = D + 384 by omega, show P2 = P + (-2651) by omega]; exact q
  by_cases c3 : P < 22091
  · have q := len_12_13_12_3 D P (by omega) (by omega); rw [show D2 = D + 384 by omega, show P2 = P + (-2651) by omega]; exact q
  have q := len_12_13_12_4 D P (by omega) (by omega); rw [show D2 = D + 384 by omega, show P2 = P + (-2651) by omega]; exact q
theorem len_13_12_12_0 (D P : Int) (h0 : 0 ≤ P) (h1 : P < 408) : vV 12 12 (D + 354) (P + (9516)) - vV 12 13 D P = 353 ∨ vV 12 12 (D + 354) (P + (9516)) - vV 12 13 D P = 354 ∨ vV 12 12 (D + 354) (P + (9516)) - vV 12 13 D P = 355 := by
  have hr : D % 7 = 0 ∨ D % 7 = 1 ∨ D % 7 = 2 ∨ D % 7 = 3 ∨ D % 7 = 4 ∨ D % 7 = 5 ∨ D % 7 = 6 := by omega
  rcases hr with hr | hr | hr | hr | hr | hr | hr
  · have e1 : vV 12 12 (D + 354) (P + (9516)) = D + 354 := by
      unfold vV; rw [if_neg (by omega), if_neg (by omega), if_neg (by omega), zZ_f (D + 354) (by omega)]; try omega
    have e2 : vV 12 13 D P = D + 1 := by
      unfold vV; rw [if_neg (by omega), if_neg (by omega), if_neg (by omega), zZ_t D (by omega)]; try omega
    rw [e1, e2]; try omega
  · have e1 : vV 12 12 (D + 354) (P + (9516)) = D + 355 := by
      unfold vV; rw [if_neg (by omega), if_neg (by omega), if_neg (by omega), zZ_t (D + 354) (by omega)]; try omega
    have e2 : vV 12 13 D P = D + 0 := by
      unfold vV; rw [if_neg (by omega), if_neg (by omega), if_neg (by omega), zZ_f D (by omega)]; try omega
    rw [e1, e2]; try omega
  · have e1 : vV 12 12 (D + 354) (P + (9516)) = D + 354 := by
      unfold vV; rw [if_neg (by omega), if_neg (by omega), if_neg (by omega), zZ_f (D + 354) (by omega)]; try omega
    have e2 : vV 12 13 D P = D + 0 := by
      unfold vV; rw [if_neg (by omega), if_neg (by omega), if_neg (by omega), zZ_f D (by omega)]; try omega
    rw [e1, e2]; try omega
  · have e1 : vV 12 12 (D + 354) (P + (9516)) = D + 355 := by
      unfold vV; rw [if_neg (by omega), if_neg (by omega), if_neg (by omega), zZ_t (D + 354) (by omega)]; try omega
    have e2 : vV 12 13 D P = D + 1 := by
      unfold vV; rw [if_neg (by omega), if_neg (by omega), if_neg (by omega), zZ_t D (by omega)]; try omega
    rw [e1, e2]; try omega
  · have e1 : vV 12 12 (D + 354) (P + (9516)) = D + 354 := by
      unfold vV; rw [if_neg (by omega), if_neg (by omega), if_neg (by omega), zZ_f (D + 354) (by omega)]; try omega
    have e2 : vV 12 13 D P = D + 0 := by
      unfold vV; rw [if_neg (by omega), if_neg (by omega), if_neg (by omega), zZ_f D (by omega)]; try omega
    rw [e1, e2]; try omega
  · have e1 : vV 12 12 (D + 354) (P + (9516)) = D + 354 := by
      unfold vV; rw [if_neg (by omega), if_neg (by omega), if_neg (by omega), zZ_f (D + 354) (by omega)]; try omega
    have e2 : vV 12 13 D P = D + 1 := by
      unfold vV; rw [if_neg (by omega), if_neg (by omega), if_neg (by omega), zZ_t D (by omega)]; try omega
    rw [e1, e2]; try omega
  · have e1 : vV 12 12 (D + 354) (P + (9516)) = D + 355 := by
      unfold vV; rw [if_neg (by omega), if_neg (by omega), if_neg (by omega), zZ_t (D + 354) (by omega)]; try omega
    have e2 : vV 12 13 D P = D + 0 := by
      unfold vV; rw [if_neg (by omega), if_neg (by omega), if_neg (by omega), zZ_f D (by omega)]; try omega
    rw [e1, e2]; try omega
theorem len_13_12_12_1 (D P : Int) (h0 : 408 ≤ P) (h1 : P < 9924) : vV 12 12 (D + 354) (P + (9516)) - vV 12 13 D P = 353 ∨ vV 12 12 (D + 354) (P + (9516)) - vV 12 13 D P = 354 ∨ vV 12 12 (D + 354) (P + (9516)) - vV 12 13 D P = 355 := by
  have hr : D % 7 = 0 ∨ D % 7 = 1 ∨ D % 7 = 2 ∨ D % 7 = 3 ∨ D % 7 = 4 ∨ D % 7 = 5 ∨ D % 7 = 6 := by omega
  rcases hr with hr | hr | hr | hr | hr | hr | hr
  · have e1 : vV 12 12 (D + 354) (P + (9516)) = D + 354 := by
      unfold vV; rw [if_neg (by omega), if_neg (by omega), if_neg (by omega), zZ_f (D + 354) (by omega)]; try omega
    have e2 : vV 12 13 D P = D + 1 := by
      unfold vV; rw [if_neg (by omega), if_neg (by omega), if_neg (by omega), zZ_t D (by omega)]; try omega
    rw [e1, e2]; try omega
  · have e1 : vV 12 12 (D + 354) (P + (9516)) = D + 355 := by
      unfold vV; rw [if_neg (by omega), if_neg (by omega), if_neg (by omega), zZ_t (D + 354) (by omega)]; try omega
    have e2 : vV 12 13 D P = D + 0 := by
      unfold vV; rw [if_neg (by omega), if_neg (by omega), if_neg (by omega), zZ_f D (by omega)]; try omega
    rw [e1, e2]; try omega
  · have e1 : vV 12 12 (D + 354) (P + (9516)) = D + 354 := by
      unfold vV; rw [if_neg (by omega), if_neg (by omega), if_neg (by omega), zZ_f (D + 354) (by omega)]; try omega
    have e2 : vV 12 13 D P = D + 0 := by
      unfold vV; rw [if_neg (by omega), if_neg (by omega), if_neg (by omega), zZ_f D (by omega)]; try omega
    rw [e1, e2]; try omega
  · have e1 : vV 12 12 (D + 354) (P + (9516)) = D + 355 := by
      unfold vV; rw [if_neg (by omega), if_neg (by omega), if_neg (by omega), zZ_t (D + 354) (by omega)]; try omega
    have e2 : vV 12 13 D P = D + 1 := by
      unfold vV; rw [if_neg (by omega), if_neg (by omega), if_neg (by omega), zZ_t D (by omega)]; try omega
    rw [e1, e2]; try omega
  · have e1 : vV 12 12 (D + 354) (P + (9516)) = D + 354 := by
      unfold vV; rw [if_neg (by omega), if_neg (by omega), if_neg (by omega), zZ_f (D + 354) (by omega)]; try omega
    have e2 : vV 12 13 D P = D + 0 := by
      unfold vV; rw [if_neg (by omega), if_neg (by omega), if_neg (by omega), zZ_f D (by omega)]; try omega
    rw [e1, e2]; try omega
  · have e1 : vV 12 12 (D + 354) (P + (9516)) = D + 356 := by
      unfold vV; rw [if_neg (by omega), if_pos (by omega), zZ_t ((D + 354) + 1) (by omega)]; try omega
    have e2 : vV 12 13 D P = D + 1 := by
      unfold vV; rw [if_neg (by omega), if_neg (by omega), if_neg (by omega), zZ_t D (by omega)]; try omega
    rw [e1, e2]; try omega
  · have e1 : vV 12 12 (D + 354) (P + (9516)) = D + 355 := by
      unfold vV; rw [if_neg (by omega), if_neg (by omega), if_neg (by omega), zZ_t (D + 354) (by omega)]; try omega
    have e2 : vV 12 13 D P = D + 0 := by
      unfold vV; rw [if_neg (by omega), if_neg (by omega), if_neg (by omega), zZ_f D (by omega)]; try omega
    rw [e1, e2]; try omega
theorem len_13_12_12_2 (D P : Int) (h0 : 9924 ≤ P) (h1 : P < 16404) : vV 12 12 (D + 354) (P + (9516)) - vV 12 13 D P = 353 ∨ vV 12 12 (D + 354) (P + (9516)) - vV 12 13 D P = 354 ∨ vV 12 12 (D + 354) (P + (9516)) - vV 12 13 D P = 355 := by
  have hr : D % 7 = 0 ∨ D % 7 = 1 ∨ D % 7 = 2 ∨ D % 7 = 3 ∨ D % 7 = 4 ∨ D % 7 = 5 ∨ D % 7 = 6 := by omega
  rcases hr with hr | hr | hr | hr | hr | hr | hr
  · have e1 : vV 12 12 (D + 354) (P + (9516)) = D + 356 := by
      unfold vV; rw [if_pos (by omega), zZ_t ((D + 354) + 1) (by omega)]; try omega
    have e2 : vV 12 13 D P = D + 1 := by
      unfold vV; rw [if_neg (by omega), if_neg (by omega), if_neg (by omega), zZ_t D (by omega)]; try omega
    rw [e1, e2]; try omega
  · have e1 : vV 12 12 (D + 354) (P + (9516)) = D + 355 := by
      unfold vV; rw [if_pos (by omega), zZ_f ((D + 354) + 1) (by omega)]; try omega
    have e2 : vV 12 13 D P = D + 0 := by
      unfold vV; rw [if_neg (by omega), if_neg (by omega), if_neg (by omega), zZ_f D (by omega)]; try omega
    rw [e1, e2]; try omega
  · have e1 : vV 12 12 (D + 354) (P + (9516)) = D + 356 := by
      unfold vV; rw [if_pos (by omega), zZ_t ((D + 354) + 1) (by omega)]; try omega
    have e2 : vV 12 13 D P = D + 2 := by
      unfold vV; rw [if_neg (by omega), if_pos (by omega), zZ_t (D + 1) (by omega)]; try omega
    rw [e1, e2]; try omega
  · have e1 : vV 12 12 (D + 354) (P + (9516)) = D + 355 := by
      unfold vV; rw [if_pos (by omega), zZ_f ((D + 354) + 1) (by omega)]; try omega
    have e2 : vV 12 13 D P = D + 1 := by
      unfold vV; rw [if_neg (by omega), if_neg (by omega), if_neg (by omega), zZ_t D (by omega)]; try omega
    rw [e1, e2]; try omega
  · have e1 : vV 12 12 (D + 354) (P + (9516)) = D + 355 := by
      unfold vV; rw [if_pos (by omega), zZ_f ((D + 354) + 1) (by omega)]; try omega
    have e2 : vV 12 13 D P = D + 0 := by
      unfold vV; rw [if_neg (by omega), if_neg (by omega), if_neg (by omega), zZ_f D (by omega)]; try omega
    rw [e1, e2]; try omega
  · have e1 : vV 12 12 (D + 354) (P + (9516)) = D + 356 := by
      unfold vV; rw [if_pos (by omega), zZ_t ((D + 354) + 1) (by omega)]; try omega
    have e2 : vV 12 13 D P = D + 1 := by
      unfold vV; rw [if_neg (by omega), if_neg (by omega), if_neg (by omega), zZ_t D (by omega)]; try omega
    rw [e1, e2]; try omega
  · have e1 : vV 12 12 (D + 354) (P + (9516)) = D + 355 := by
      unfold vV; rw [if_pos (by omega), zZ_f ((D + 354) + 1) (by omega)]; try omega
    have e2 : vV 12 13 D P = D + 0 := by
      unfold vV; rw [if_neg (by omega), if_neg (by omega), if_neg (by omega), zZ_f D (by omega)]; try omega
    rw [e1, e2]; try omega
theorem len_13_12_12_3 (D P : Int) (h0 : 16404 ≤ P) (h1 : P < 16789) : vV 12 12 (D + 355) (P + (-16404)) - vV 12 13 D P = 353 ∨ vV 12 12 (D + 355) (P + (-16404)) - vV 12 13 D P = 354 ∨ vV 12 12 (D + 355) (P + (-16404)) - vV 12 13 D P = 355 := by
  have hr : D % 7 = 0 ∨ D % 7 = 1 ∨ D % 7 = 2 ∨ D % 7 = 3 ∨ D % 7 = 4 ∨ D % 7 = 5 ∨ D % 7 = 6 := by omega
  rcases hr with hr | hr | hr | hr | hr | hr | hr
  · have e1 : vV 12 12 (D + 355) (P + (-16404)) = D + 356 := by
      unfold vV; rw [if_neg (by omega), if_neg (by omega), if_neg (by omega), zZ_t (D + 355) (by omega)]; try omega
    have e2 : vV 12 13 D P = D + 1 := by
      unfold vV; rw [if_neg (by omega), if_neg (by omega), if_neg (by omega), zZ_t D (by omega)]; try omega
    rw [e1, e2]; try omega
  · have e1 : vV 12 12 (D + 355) (P + (-16404)) = D + 355 := by
      unfold vV; rw [if_neg (by omega), if_neg (by omega), if_neg (by omega), zZ_f (D + 355) (by omega)]; try omega
    have e2 : vV 12 13 D P = D + 0 := by
      unfold vV; rw [if_neg (by omega), if_neg (by omega), if_neg (by omega), zZ_f D (by omega)]; try omega
    rw [e1, e2]; try omega
  · have e1 : vV 12 12 (D + 355) (P + (-16404)) = D + 356 := by
      unfold vV; rw [if_neg (by omega), if_neg (by omega), if_neg (by omega), zZ_t (D + 355) (by omega)]; try omega
    have e2 : vV 12 13 D P = D + 2 := by
      unfold vV; rw [if_neg (by omega), if_pos (by omega), zZ_t (D + 1) (by omega)]; try omega
    rw [e1, e2]; try omega
  · have e1 : vV 12 12 (D + 355) (P + (-16404)) = D + 355 := by
      unfold vV; rw [if_neg (by omega), if_neg (by omega), if_neg (by omega), zZ_f (D + 355) (by omega)]; try omega
    have e2 : vV 12 13 D P = D + 1 := by
      unfold vV; rw [if_neg (by omega), if_neg (by omega), if_neg (by omega), zZ_t D (by omega)]; try omega
    rw [e1, e2]; try omega
  · have e1 : vV 12 12 (D + 355) (P + (-16404)) = D + 355 := by
      unfold vV; rw [if_neg (by omega), if_neg (by omega), if_neg (by omega), zZ_f (D + 355) (by omega)]; try omega
    have e2 : vV 12 13 D P = D + 0 := by
      unfold vV; rw [if_neg (by omega), if_neg (by omega), if_neg (by omega), zZ_f D (by omega)]; try omega
    rw [e1, e2]; try omega
  · have e1 : vV 12 12 (D + 355) (P + (-16404)) = D + 356 := by
      unfold vV; rw [if_neg (by omega), if_neg (by omega), if_neg (by omega), zZ_t (D + 355) (by omega)]; try omega
    have e2 : vV 12 13 D P = D + 1 := by
      unfold vV; rw [if_neg (by omega), if_neg (by omega), if_neg (by omega), zZ_t D (by omega)]; try omega
    rw [e1, e2]; try omega
  · have e1 : vV 12 12 (D + 355) (P + (-16404)) = D + 355 := by
      unfold vV; rw [if_neg (by omega), if_neg (by omega), if_neg (by omega), zZ_f (D + 355) (by omega)]; try omega
    have e2 : vV 12 13 D P = D + 0 := by
      unfold vV; rw [if_neg (by omega), if_neg (by omega), if_neg (by omega), zZ_f D (by omega)]; try omega
    rw [e1, e2]; try omega
theorem len_13_12_12_4 (D P : Int) (h0 : 16789 ≤ P) (h1 : P < 19440) : vV 12 12 (D + 355) (P + (-16404)) - vV 12 13 D P = 353 ∨ vV 12 12 (D + 355) (P + (-16404)) - vV 12 13 D P = 354 ∨ vV 12 12 (D + 355) (P + (-16404)) - vV 12 13 D P = 355 := by
  have hr : D % 7 = 0 ∨ D % 7 = 1 ∨ D % 7 = 2 ∨ D % 7 = 3 ∨ D % 7 = 4 ∨ D % 7 = 5 ∨ D % 7 = 6 := by omega
  rcases hr with hr | hr | hr | hr | hr | hr | hr
  · have e1 : vV 12 12 (D + 355) (P + (-16404)) = D + 356 := by
      unfold vV; rw [if_neg (by omega), if_neg (by omega), if_neg (by omega), zZ_t (D + 355) (by omega)]; try omega
    have e2 : vV 12 13 D P = D + 1 := by
      unfold vV; rw [if_neg (by omega), if_neg (by omega), if_neg (by omega), zZ_t D (by omega)]; try omega
    rw [e1, e2]; try omega
  · have e1 : vV 12 12 (D + 355) (P + (-16404)) = D + 355 := by
      unfold vV; rw [if_neg (by omega), if_neg (by omega), if_neg (by omega), zZ_f (D + 355) (by omega)]; try omega
    have e2 : vV 12 13 D P = D + 1 := by
      unfold vV; rw [if_neg (by omega), if_neg (by omega), if_pos (by omega), zZ_f (D + 1) (by omega)]; try omega
    rw [e1, e2]; try omega
  · have e1 : vV 12 12 (D + 355) (P + (-16404)) = D + 356 := by
      unfold vV; rw [if_neg (by omega), if_neg (by omega), if_neg (by omega), zZ_t (D + 355) (by omega)]; try omega
    have e2 : vV 12 13 D P = D + 2 := by
      unfold vV; rw [if_neg (by omega), if_pos (by omega), zZ_t (D + 1) (by omega)]; try omega
    rw [e1, e2]; try omega
  · have e1 : vV 12 12 (D + 355) (P + (-16404)) = D + 355 := by
      unfold vV; rw [if_neg (by omega), if_neg (by omega), if_neg (by omega), zZ_f (D + 355) (by omega)]; try omega
    have e2 : vV 12 13 D P = D + 1 := by
      unfold vV; rw [if_neg (by omega), if_neg (by omega), if_neg (by omega), zZ_t D (by omega)]; try omega
    rw [e1, e2]; try omega
  · have e1 : vV 12 12 (D + 355) (P + (-16404)) = D + 355 := by
      unfold vV; rw [if_neg (by omega), if_neg (by omega), if_neg (by omega), zZ_f (D + 355) (by omega)]; try omega
    have e2 : vV 12 13 D P = D + 0 := by
      unfold vV; rw [if_neg (by omega), if_neg (by omega), if_neg (by omega), zZ_f D (by omega)]; try omega
    rw [e1, e2]; try omega
  · have e1 : vV 12 12 (D + 355) (P + (-16404)) = D + 356 := by
      unfold vV; rw [if_neg (by omega), if_neg (by omega), if_neg (by omega), zZ_t (D + 355) (by omega)]; try omega
    have e2 : vV 12 13 D P = D + 1 := by
      unfold vV; rw [if_neg (by omega), if_neg (by omega), if_neg (by omega), zZ_t D (by omega)]; try omega
    rw [e1, e2]; try omega
  · have e1 : vV 12 12 (D + 355) (P + (-16404)) = D + 355 := by
      unfold vV; rw [if_neg (by omega), if_neg (by omega), if_neg (by omega), zZ_f (D + 355) (by omega)]; try omega
    have e2 : vV 12 13 D P = D + 0 := by
      unfold vV; rw [if_neg (by omega), if_neg (by omega), if_neg (by omega), zZ_f D (by omega)]; try omega
    rw [e1, e2]; try omega
theorem len_13_12_12_5 (D P : Int) (h0 : 19440 ≤ P) (h1 : P < 25920) : vV 12 12 (D + 355) (P + (-16404)) - vV 12 13 D P = 353 ∨ vV 12 12 (D + 355) (P + (-16404)) - vV 12 13 D P = 354 ∨ vV 12 12 (D + 355) (P + (-16404)) - vV 12 13 D P = 355 := by
  have hr : D % 7 = 0 ∨ D % 7 = 1 ∨ D % 7 = 2 ∨ D % 7 = 3 ∨ D % 7 = 4 ∨ D % 7 = 5 ∨ D % 7 = 6 := by omega
  rcases hr with hr | hr | hr | hr | hr | hr | hr
  · have e1 : vV 12 12 (D + 355) (P + (-16404)) = D + 356 := by
      unfold vV; rw [if_neg (by omega), if_neg (by omega), if_neg (by omega), zZ_t (D + 355) (by omega)]; try omega
    have e2 : vV 12 13 D P = D + 1 := by
      unfold vV; rw [if_pos (by omega), zZ_f (D + 1) (by omega)]; try omega
    rw [e1, e2]; try omega
  · have e1 : vV 12 12 (D + 355) (P + (-16404)) = D + 355 := by
      unfold vV; rw [if_neg (by omega), if_neg (by omega), if_neg (by omega), zZ_f (D + 355) (by omega)]; try omega
    have e2 : vV 12 13 D P = D + 1 := by
      unfold vV; rw [if_pos (by omega), zZ_f (D + 1) (by omega)]; try omega
    rw [e1, e2]; try omega
  · have e1 : vV 12 12 (D + 355) (P + (-16404)) = D + 356 := by
      unfold vV; rw [if_neg (by omega), if_neg (by omega), if_neg (by omega), zZ_t (D + 355) (by omega)]; try omega
    have e2 : vV 12 13 D P = D + 2 := by
      unfold vV; rw [if_pos (by omega), zZ_t (D + 1) (by omega)]; try omega
    rw [e1, e2]; try omega
  · have e1 : vV 12 12 (D + 355) (P + (-16404)) = D + 355 := by
      unfold vV; rw [if_neg (by omega), if_neg (by omega), if_neg (by omega), zZ_f (D + 355) (by omega)]; try omega
    have e2 : vV 12 13 D P = D + 1 := by
      unfold vV; rw [if_pos (by omega), zZ_f (D + 1) (by omega)]; try omega
    rw [e1, e2]; try omega
  · have e1 : vV 12 12 (D + 355) (P + (-16404)) = D + 355 := by
      unfold vV; rw [if_neg (by omega), if_neg (by omega), if_neg (by omega), zZ_f (D + 355) (by omega)]; try omega
    have e2 : vV 12 13 D P = D + 2 := by
      unfold vV; rw [if_pos (by omega), zZ_t (D + 1) (by omega)]; try omega
    rw [e1, e2]; try omega
  · have e1 : vV 12 12 (D + 355) (P + (-16404)) = D + 356 := by
      unfold vV; rw [if_neg (by omega), if_neg (by omega), if_neg (by omega), zZ_t (D + 355) (by omega)]; try omega
    have e2 : vV 12 13 D P = D + 1 := by
      unfold vV; rw [if_pos (by omega), zZ_f (D + 1) (by omega)]; try omega
    rw [e1, e2]; try omega
  · have e1 : vV 12 12 (D + 355) (P + (-16404)) = D + 355 := by
      unfold vV; rw [if_neg (by omega), if_neg (by omega), if_neg (by omega), zZ_f (D + 355) (by omega)]; try omega
    have e2 : vV 12 13 D P = D + 2 := by
      unfold vV; rw [if_pos (by omega), zZ_t (D + 1) (by omega)]; try omega
    rw [e1, e2]; try omega
theorem len_13_12_12 (D P : Int) (h0 : 0 ≤ P) (h1 : P < 25920) (D2 P2 : Int) (g0 : 0 ≤ P2) (g1 : P2 < 25920) (hs : 25920 * D2 + P2 = 25920 * D + P + 765433 * 12) : vV 12 12 D2 P2 - vV 12 13 D P = 353 ∨ vV 12 12 D2 P2 - vV 12 13 D P = 354 ∨ vV 12 12 D2 P2 - vV 12 13 D P = 355 := by
  by_cases c0 : P < 408
  · have q := len_13_12_12_0 D P (by omega) (by omega); rw [show D2 = D + 354 by omega, show P2 = P + (9516) by omega]; exact q
  by_cases c1 : P < 9924
  · have q := len_13_12_12_1 D P (by omega) (by omega); rw [show D2 = D + 354 by omega, show P2 = P + (9516) by omega]; exact q
  by_cases c2 : P < 16404
  · have q := len_13_12_12_2 D P (by omega) (by omega); rw [show D2 = D + 354 by omega, show P2 = P + (9516) by omega]; exact q
  by_cases c3 : P < 16789
  · have q := len_13_12_12_3 D P (by omega) (by omega); rw [show D2 = D + 355 by omega, show P2 = P + (-16404) by omega]; exact q
  by_cases c4 : P < 19440
  · have q := len_13_12_12_4 D P (by omega) (by omega); rw [show D2 = D + 355 by omega, show P2 = P + (-16404) by omega]; exact q
  have q := len_13_12_12_5 D P (by omega) (by omega); rw [show D2 = D + 355 by omega, show P2 = P + (-16404) by omega]; exact q
theorem len_13_12_13_0 (D P : Int) (h0 : 0 ≤ P) (h1 : P < 9924) : vV 13 12 (D + 354) (P + (9516)) - vV 12 13 D P = 353 ∨ vV 13 12 (D + 354) (P + (9516)) - vV 12 13 D P = 354 ∨ vV 13 12 (D + 354) (P + (9516)) - vV 12 13 D P = 355 := by
  have hr : D % 7 = 0 ∨ D % 7 = 1 ∨ D % 7 = 2 ∨ D % 7 = 3 ∨ D % 7 = 4 ∨ D % 7 = 5 ∨ D % 7 = 6 := by omega
  rcases hr with hr | hr | hr | hr | hr | hr | hr
  · have e1 : vV 13 12 (D + 354) (P + (9516)) = D + 354 := by
      unfold vV; rw [if_neg (by omega), if_neg (by omega), if_neg (by omega), zZ_f (D + 354) (by omega)]; try omega
    have e2 : vV 12 13 D P = D + 1 := by
      unfold vV; rw [if_neg (by omega), if_neg (by omega), if_neg (by omega), zZ_t D (by omega)]; try omega
    rw [e1, e2]; try omega
  · have e1 : vV 13 12 (D + 354) (P + (9516)) = D + 355 := by
      unfold vV; rw [if_neg (by omega), if_neg (by omega), if_neg (by omega), zZ_t (D + 354) (by omega)]; try omega
    have e2 : vV 12 13 D P = D + 0 := by
      unfold vV; rw [if_neg (by omega), if_neg (by omega), if_neg (by omega), zZ_f D (by omega)]; try omega
    rw [e1, e2]; try omega
  · have e1 : vV 13 12 (D + 354) (P + (9516)) = D + 354 := by
      unfold vV; rw [if_neg (by omega), if_neg (by omega), if_neg (by omega), zZ_f (D + 354) (by omega)]; try omega
    have e2 : vV 12 13 D P = D + 0 := by
      unfold vV; rw [if_neg (by omega), if_neg (by omega), if_neg (by omega), zZ_f D (by omega)]; try omega
    rw [e1, e2]; try omega
  · have e1 : vV 13 12 (D + 354) (P + (9516)) = D + 355 := by
      unfold vV; rw [if_neg (by omega), if_neg (by omega), if_neg (by omega), zZ_t (D + 354) (by omega)]; try omega
    have e2 : vV 12 13 D P = D + 1 := by
      unfold vV; rw [if_neg (by omega), if_neg (by omega), if_neg (by omega), zZ_t D (by omega)]; try omega
    rw [e1, e2]; try omega
  · have e1 : vV 13 12 (D + 354) (P + (9516)) = D + 354 := by
      unfold vV; rw [if_neg (by omega), if_neg (by omega), if_neg (by omega), zZ_f (D + 354) (by omega)]; try omega
    have e2 : vV 12 13 D P = D + 0 := by
      unfold vV; rw [if_neg (by omega), if_neg (by omega), if_neg (by omega), zZ_f D (by omega)]; try omega
    rw [e1, e2]; try omega
  · have e1 : vV 13 12 (D + 354) (P + (9516)) = D + 354 := by
      unfold vV; rw [if_neg (by omega), if_neg (by omega), if_neg (by omega), zZ_f (D + 354) (by omega)]; try omega
    have e2 : vV 12 13 D P = D + 1 := by
      unfold vV; rw [if_neg (by omega), if_neg (by omega), if_neg (by omega), zZ_t D (by omega)]; try omega
    rw [e1, e2]; try omega
  · have e1 : vV 13 12 (D + 354) (P + (9516)) = D + 355 := by
      unfold vV; rw [if_neg (by omega), if_neg (by omega), if_neg (by omega), zZ_t (D + 354) (by omega)]; try omega
    have e2 : vV 12 13 D P = D + 0 := by
      unfold vV; rw [if_neg (by omega), if_neg (by omega), if_neg (by omega), zZ_f D (by omega)]; try omega
    rw [e1, e2]; try omega
theorem len_13_12_13_1 (D P : Int) (h0 : 9924 ≤ P) (h1 : P < 16404) : vV 13 12 (D + 354) (P + (9516)) - vV 12 13 D P = 353 ∨ vV 13 12 (D + 354) (P + (9516)) - vV 12 13 D P = 354 ∨ vV 13 12 (D + 354) (P + (9516)) - vV 12 13 D P = 355 := by
  have hr : D % 7 = 0 ∨ D % 7 = 1 ∨ D % 7 = 2 ∨ D % 7 = 3 ∨ D % 7 = 4 ∨ D % 7 = 5 ∨ D % 7 = 6 := by omega
  rcases hr with hr | hr | hr | hr | hr | hr | hr
  · have e1 : vV 13 12 (D + 354) (P + (9516)) = D + 356 := by
      unfold vV; rw [if_pos (by omega), zZ_t ((D + 354) + 1) (by omega)]; try omega
    have e2 : vV 12 13 D P = D + 1 := by
      unfold vV; rw [if_neg (by omega), if_neg (by omega), if_neg (by omega), zZ_t D (by omega)]; try omega
    rw [e1, e2]; try omega
  · have e1 : vV 13 12 (D + 354) (P + (9516)) = D + 355 := by
      unfold vV; rw [if_pos (by omega), zZ_f ((D + 354) + 1) (by omega)]; try omega
    have e2 : vV 12 13 D P = D + 0 := by
      unfold vV; rw [if_neg (by omega), if_neg (by omega), if_neg (by omega), zZ_f D (by omega)]; try omega
    rw [e1, e2]; try omega
  · have e1 : vV 13 12 (D + 354) (P + (9516)) = D + 356 := by
      unfold vV; rw [if_pos (by omega), zZ_t ((D + 354) + 1) (by omega)]; try omega
    have e2 : vV 12 13 D P = D + 2 := by
      unfold vV; rw [if_neg (by omega), if_pos (by omega), zZ_t (D + 1) (by omega)]; try omega
    rw [e1, e2]; try omega
  · have e1 : vV 13 12 (D + 354) (P + (9516)) = D + 355 := by
      unfold vV; rw [if_pos (by omega), zZ_f ((D + 354) + 1) (by omega)]; try omega
    have e2 : vV 12 13 D P = D + 1 := by
      unfold vV; rw [if_neg (by omega), if_neg (by omega), if_neg (by omega), zZ_t D (by omega)]; try omega
    rw [e1, e2]; try omega
  · have e1 : vV 13 12 (D + 354) (P + (9516)) = D + 355 := by
      unfold vV; rw [if_pos (by omega), zZ_f ((D + 354) + 1) (by omega)]; try omega
    have e2 : vV 12 13 D P = D + 0 := by
      unfold vV; rw [if_neg (by omega), if_neg (by omega), if_neg (by omega), zZ_f D (by omega)]; try omega
    rw [e1, e2]; try omega
  · have e1 : vV 13 12 (D + 354) (P + (9516)) = D + 356 := by
      unfold vV; rw [if_pos (by omega), zZ_t ((D + 354) + 1) (by omega)]; try omega
    have e2 : vV 12 13 D P = D + 1 := by
      unfold vV; rw [if_neg (by omega), if_neg (by omega), if_neg (by omega), zZ_t D (by omega)]; try omega
    rw [e1, e2]; try omega
  · have e1 : vV 13 12 (D + 354) (P + (9516)) = D + 355 := by
      unfold vV; rw [if_pos (by omega), zZ_f ((D + 354) + 1) (by omega)]; try omega
    have e2 : vV 12 13 D P = D + 0 := by
      unfold vV; rw [if_neg (by omega), if_neg (by omega), if_neg (by omega), zZ_f D (by omega)]; try omega
    rw [e1, e2]; try omega
theorem len_13_12_13_2 (D P : Int) (h0 : 16404 ≤ P) (h1 : P < 16789) : vV 13 12 (D + 355) (P + (-16404)) - vV 12 13 D P = 353 ∨ vV 13 12 (D + 355) (P + (-16404)) - vV 12 13 D P = 354 ∨ vV 13 12 (D + 355) (P + (-16404)) - vV 12 13 D P = 355 := by
  have hr : D % 7 = 0 ∨ D % 7 = 1 ∨ D % 7 = 2 ∨ D % 7 = 3 ∨ D % 7 = 4 ∨ D % 7 = 5 ∨ D % 7 = 6 := by omega
  rcases hr with hr | hr | hr | hr | hr | hr | hr
  · have e1 : vV 13 12 (D + 355) (P + (-16404)) = D + 356 := by
      unfold vV; rw [if_neg (by omega), if_neg (by omega), if_neg (by omega), zZ_t (D + 355) (by omega)]; try omega
    have e2 : vV 12 13 D P = D + 1 := by
      unfold vV; rw [if_neg (by omega), if_neg (by omega), if_neg (by omega), zZ_t D (by omega)]; try omega
    rw [e1, e2]; try omega
  · have e1 : vV 13 12 (D + 355) (P + (-16404)) = D + 355 := by
      unfold vV; rw [if_neg (by omega), if_neg (by omega), if_neg (by omega), zZ_f (D + 355) (by omega)]; try omega
    have e2 : vV 12 13 D P = D + 0 := by
      unfold vV; rw [if_neg (by omega), if_neg (by omega), if_neg (by omega), zZ_f D (by omega)]; try omega
    rw [e1, e2]; try omega
  · have e1 : vV 13 12 (D + 355) (P + (-16404)) = D + 356 := by
      unfold vV; rw [if_neg (by omega), if_neg (by omega), if_neg (by omega), zZ_t (D + 355) (by omega)]; try omega
    have e2 : vV 12 13 D P = D + 2 := by
      unfold vV; rw [if_neg (by omega), if_pos (by omega), zZ_t (D + 1) (by omega)]; try omega
    rw [e1, e2]; try omega
  · have e1 : vV 13 12 (D + 355) (P + (-16404)) = D + 355 := by
      unfold vV; rw [if_neg (by omega), if_neg (by omega), if_neg (by omega), zZ_f (D + 355) (by omega)]; try omega
    have e2 : vV 12 13 D P = D + 1 := by
      unfold vV; rw [if_neg (by omega), if_neg (by omega), if_neg (by omega), zZ_t D (by omega)]; try omega
    rw [e1, e2]; try omega
  · have e1 : vV 13 12 (D + 355) (P + (-16404)) = D + 355 := by
      unfold vV; rw [if_neg (by omega), if_neg (by omega), if_neg (by omega), zZ_f (D + 355) (by omega)]; try omega
    have e2 : vV 12 13 D P = D + 0 := by
      unfold vV; rw [if_neg (by omega), if_neg (by omega), if_neg (by omega), zZ_f D (by omega)]; try omega
    rw [e1, e2]; try omega
  · have e1 : vV 13 12 (D + 355) (P + (-16404)) = D + 356 := by
      unfold vV; rw [if_neg (by omega), if_neg (by omega), if_neg (by omega), zZ_t (D + 355) (by omega)]; try omega
    have e2 : vV 12 13 D P = D + 1 := by
      unfold vV; rw [if_neg (by omega), if_neg (by omega), if_neg (by omega), zZ_t D (by omega)]; try omega
    rw [e1, e2]; try omega
  · have e1 : vV 13 12 (D + 355) (P + (-16404)) = D + 355 := by
      unfold vV; rw [if_neg (by omega), if_neg (by omega), if_neg (by omega), zZ_f (D + 355) (by omega)]; try omega
    have e2 : vV 12 13 D P = D + 0 := by
      unfold vV; rw [if_neg (by omega), if_neg (by omega), if_neg (by omega), zZ_f D (by omega)]; try omega
    rw [e1, e2]; try omega
theorem len_13_12_13_3 (D P : Int) (h0 : 16789 ≤ P) (h1 : P < 19440) : vV 13 12 (D + 355) (P + (-16404)) - vV 12 13 D P = 353 ∨ vV 13 12 (D + 355) (P + (-16404)) - vV 12 13 D P = 354 ∨ vV 13 12 (D + 355) (P + (-16404)) - vV 12 13 D P = 355 := by
  have hr : D % 7 = 0 ∨ D % 7 = 1 ∨ D % 7 = 2 ∨ D % 7 = 3 ∨ D % 7 = 4 ∨ D % 7 = 5 ∨ D % 7 = 6 := by omega
  rcases hr with hr | hr | hr | hr | hr | hr | hr
  · have e1 : vV 13 12 (D + 355) (P + (-16404)) = D + 356 := by
      unfold vV; rw [if_neg (by omega), if_neg (by omega), if_neg (by omega), zZ_t (D + 355) (by omega)]; try omega
    have e2 : vV 12 13 D P = D + 1 := by
      unfold vV; rw [if_neg (by omega), if_neg (by omega), if_neg (by omega), zZ_t D (by omega)]; try omega
    rw [e1, e2]; try omega
  · have e1 : vV 13 12 (D + 355) (P + (-16404)) = D + 355 := by
      unfold vV; rw [if_neg (by omega), if_neg (by omega), if_neg (by omega), zZ_f (D + 355) (by omega)]; try omega
    have e2 : vV 12 13 D P = D + 1 := by
      unfold vV; rw [if_neg (by omega), if_neg (by omega), if_pos (by omega), zZ_f (D + 1) (by omega)]; try omega
    rw [e1, e2]; try omega
  · have e1 : vV 13 12 (D + 355) (P + (-16404)) = D + 356 := by
      unfold vV; rw [if_neg (by omega), if_neg (by omega), if_neg (by omega), zZ_t (D + 355) (by omega)]; try omega
    have e2 : vV 12 13 D P = D + 2 := by
      unfold vV; rw [if_neg (by omega), if_pos (by omega), zZ_t (D + 1) (by omega)]; try omega
    rw [e1, e2]; try omega
  · have e1 : vV 13 12 (D + 355) (P + (-16404)) = D + 355 := by
      unfold vV; rw [if_neg (by omega), if_neg (by omega), if_neg (by omega), zZ_f (D + 355) (by omega)]; try omega
    have e2 : vV 12 13 D P = D + 1 := by
      unfold vV; rw [if_neg (by omega), if_neg (by omega), if_neg (by omega), zZ_t D (by omega)]; try omega
    rw [e1, e2]; try omega
  · have e1 : vV 13 12 (D + 355) (P + (-16404)) = D + 355 := by
      unfold vV; rw [if_neg (by omega), if_neg (by omega), if_neg (by omega), zZ_f (D + 355) (by omega)]; try omega
    have e2 : vV 12 13 D P = D + 0 := by
      unfold vV; rw [if_neg (by omega), if_neg (by omega), if_neg (by omega), zZ_f D (by omega)]; try omega
    rw [e1, e2]; try omega
  · have e1 : vV 13 12 (D + 355) (P + (-16404)) = D + 356 := by
      unfold vV; rw [if_neg (by omega), if_neg (by omega), if_neg (by omega), zZ_t (D + 355) (by omega)]; try omega
    have e2 : vV 12 13 D P = D + 1 := by
      unfold vV; rw [if_neg (by omega), if_neg (by omega), if_neg (by omega), zZ_t D (by omega)]; try omega
    rw [e1, e2]; try omega
  · have e1 : vV 13 12 (D + 355) (P + (-16404)) = D + 355 := by
      unfold vV; rw [if_neg (by omega), if_neg (by omega), if_neg (by omega), zZ_f (D + 355) (by omega)]; try omega
    have e2 : vV 12 13 D P = D + 0 := by
      unfold vV; rw [if_neg (by omega), if_neg (by omega), if_neg (by omega), zZ_f D (by omega)]; try omega
    rw [e1, e2]; try omega
theorem len_13_12_13_4 (D P : Int) (h0 : 19440 ≤ P) (h1 : P < 25920) : vV 13 12 (D + 355) (P + (-16404)) - vV 12 13 D P = 353 ∨ vV 13 12 (D + 355) (P + (-16404)) - vV 12 13 D P = 354 ∨ vV 13 12 (D + 355) (P + (-16404)) - vV 12 13 D P = 355 := by
  have hr : D % 7 = 0 ∨ D % 7 = 1 ∨ D % 7 = 2 ∨ D % 7 = 3 ∨ D % 7 = 4 ∨ D % 7 = 5 ∨ D % 7 = 6 := by omega
  rcases hr with hr | hr | hr | hr | hr | hr | hr
  · have e1 : vV 13 12 (D + 355) (P + (-16404)) = D + 356 := by
      unfold vV; rw [if_neg (by omega), if_neg (by omega), if_neg (by omega), zZ_t (D + 355) (by omega)]; try omega
    have e2 : vV 12 13 D P = D + 1 := by
      unfold vV; rw [if_pos (by omega), zZ_f (D + 1) (by omega)]; try omega
    rw [e1, e2]; try omega
  · have e1 : vV 13 12 (D + 355) (P + (-16404)) = D + 355 := by
      unfold vV; rw [if_neg (by omega), if_neg (by omega), if_neg (by omega), zZ_f (D + 355) (by omega)]; try omega
    have e2 : vV 12 13 D P = D + 1 := by
      unfold vV; rw [if_pos (by omega), zZ_f (D + 1) (by omega)]; try omega
    rw [e1, e2]; try omega
  · have e1 : vV 13 12 (D + 355) (P + (-16404)) = D + 356 := by
      unfold vV; rw [if_neg (by omega), if_neg (by omega), if_neg (by omega), zZ_t (D + 355) (by omega)]; try omega
    have e2 : vV 12 13 D P = D + 2 := by
      unfold vV; rw [if_pos (by omega), zZ_t (D + 1) (by omega)]; try omega
    rw [e1, e2]; try omega
  · have e1 : vV 13 12 (D + 355) (P + (-16404)) = D + 355 := by
      unfold vV; rw [if_neg (by omega), if_neg (by omega), if_neg (by omega), zZ_f (D + 355) (by omega)]; try omega
    have e2 : vV 12 13 D P = D + 1 := by
      unfold vV; rw [if_pos (by omega), zZ_f (D + 1) (by omega)]; try omega
    rw [e1, e2]; try omega
  · have e1 : vV 13 12 (D + 355) (P + (-16404)) = D + 355 := by
      unfold vV; rw [if_neg (by omega), if_neg (by omega), if_neg (by omega), zZ_f (D + 355) (by omega)]; try omega
    have e2 : vV 12 13 D P = D + 2 := by
      unfold vV; rw [if_pos (by omega), zZ_t (D + 1) (by omega)]; try omega
    rw [e1, e2]; try omega
  · have e1 : vV 13 12 (D + 355) (P + (-16404)) = D + 356 := by
      unfold vV; rw [if_neg (by omega), if_neg (by omega), if_neg (by omega), zZ_t (D + 355) (by omega)]; try omega
    have e2 : vV 12 13 D P = D + 1 := by
      unfold vV; rw [if_pos (by omega), zZ_f (D + 1) (by omega)]; try omega
    rw [e1, e2]; try omega
  · have e1 : vV 13 12 (D + 355) (P + (-16404)) = D + 355 := by
      unfold vV; rw [if_neg (by omega), if_neg (by omega), if_neg (by omega), zZ_f (D + 355) (by omega)]; try omega
    have e2 : vV 12 13 D P = D + 2 := by
      unfold vV; rw [if_pos (by omega), zZ_t (D + 1) (by omega)]; try omega
    rw [e1, e2]; try omega
theorem len_13_12_13 (D P : Int) (h0 : 0 ≤ P) (h1 : P < 25920) (D2 P2 : Int) (g0 : 0 ≤ P2) (g1 : P2 < 25920) (hs : 25920 * D2 + P2 = 25920 * D + P + 765433 * 12) : vV 13 12 D2 P2 - vV 12 13 D P = 353 ∨ vV 13 12 D2 P2 - vV 12 13 D P = 354 ∨ vV 13 12 D2 P2 - vV 12 13 D P = 355 := by
  by_cases c0 : P < 9924
  · have q := len_13_12_13_0 D P (by omega) (by omega); rw [show D2 = D + 354 by omega, show P2 = P + (9516) by omega]; exact q
  by_cases c1 : P < 16404
  · have q := len_13_12_13_1 D P (by omega) (by omega); rw [show D2 = D + 354 by omega, show P2 = P + (9516) by omega]; exact q
  by_cases c2 : P < 16789
  · have q := len_13_12_13_2 D P (by omega) (by omega); rw [show D2 = D + 355 by omega, show P2 = P + (-16404) by omega]; exact q
  by_cases c3 : P < 19440
  · have q := len_13_12_13_3 D P (by omega) (by omega); rw [show D2 = D + 355 by omega, show P2 = P + (-16404) by omega]; exact q
  have q := len_13_12_13_4 D P (by omega) (by omega); rw [show D2 = D + 355 by omega, show P2 = P + (-16404) by omega]; exact q
theorem lp_lng (y : Int) : lp y = lng y := by
  have h : y % 19 = 0 ∨ y % 19 = 1 ∨ y % 19 = 2 ∨ y % 19 = 3 ∨ y % 19 = 4 ∨ y % 19 = 5 ∨ y % 19 = 6 ∨ y % 19 = 7 ∨ y % 19 = 8 ∨ y % 19 = 9 ∨ y % 19 = 10 ∨ y % 19 = 11 ∨ y % 19 = 12 ∨ y % 19 = 13 ∨ y % 19 = 14 ∨ y % 19 = 15 ∨ y % 19 = 16 ∨ y % 19 = 17 ∨ y % 19 = 18 := by omega
  unfold lp lng
  apply decide_eq_decide.mpr
  rcases h with h | h | h | h | h | h | h | h | h | h | h | h | h | h | h | h | h | h | h <;> omega
theorem cnt_eq : ∀ n, n < 19 → cnt n = (235 * (n : Int) + 1) / 19 - 12 * n := by decide +kernel
theorem mo_mth (y : Int) : mo y = mth y := by
  unfold mo mth
  have h : ((y - 1) % 19 + 1 - 1).toNat < 19 := by omega
  rw [cnt_eq _ h]
  omega
def mL (y : Int) : Int := if lng y then 13 else 12
theorem mL_or (y : Int) : (lng y = true ∧ Lg y ∧ mL y = 13) ∨ (lng y = false ∧ ¬ Lg y ∧ mL y = 12) := by
  cases h : lng y with
  | true => exact .inl ⟨rfl, lng_t h, by unfold mL; rw [h]; rfl⟩
  | false => exact .inr ⟨rfl, lng_f h, by unfold mL; rw [h]; rfl⟩
theorem mth_next (y : Int) : mth (y + 1) = mth y + mL y := by
  have g : y % 19 = 0 ∨ y % 19 = 1 ∨ y % 19 = 2 ∨ y % 19 = 3 ∨ y % 19 = 4 ∨ y % 19 = 5 ∨ y % 19 = 6 ∨ y % 19 = 7 ∨ y % 19 = 8 ∨ y % 19 = 9 ∨ y % 19 = 10 ∨ y % 19 = 11 ∨ y % 19 = 12 ∨ y % 19 = 13 ∨ y % 19 = 14 ∨ y % 19 = 15 ∨ y % 19 = 16 ∨ y % 19 = 17 ∨ y % 19 = 18 := by omega
  have h := mL_or y
  unfold Lg at h
  unfold mth
  rcases g with g | g | g | g | g | g | g | g | g | g | g | g | g | g | g | g | g | g | g <;> omega
def xX (y : Int) : Int := 31524 + 765433 * mth y
theorem d1_aA (y : Int) : d1 y = aA (xX y) - 1 := by
  have e : dd y = eE (xX y) - 1 := by unfold dd eE xX; omega
  have h : eE (xX y) % 7 = 0 ∨ eE (xX y) % 7 = 1 ∨ eE (xX y) % 7 = 2 ∨ eE (xX y) % 7 = 3 ∨ eE (xX y) % 7 = 4 ∨ eE (xX y) % 7 = 5 ∨ eE (xX y) % 7 = 6 := by omega
  unfold d1 aA
  rw [e]
  generalize eE (xX y) = E at *
  rcases h with h | h | h | h | h | h | h <;> (repeat' split) <;> omega
theorem xX_next (y : Int) : xX (y + 1) = xX y + 765433 * mL y := by
  unfold xX
  rw [mth_next, Int.mul_add]
  omega
theorem ldF_vV (y D P : Int) : zZ (ldF y D P) = vV (mL y) (mL (y - 1)) D P := by
  have h := mL_or y
  have g := mL_or (y - 1)
  unfold Lg at h g
  unfold ldF vV
  congr 1
  (repeat' split) <;> omega
theorem lny_vV (y : Int) : lny y = 347997 + vV (mL y) (mL (y - 1)) (xX y / 25920) (xX y % 25920) := by
  rw [← ldF_vV]
  unfold lny lnyF zZ xX
  rw [mo_mth]
theorem mL_pair (y : Int) : (mL y = 12 ∧ mL (y - 1) = 12) ∨ (mL y = 12 ∧ mL (y - 1) = 13) ∨ (mL y = 13 ∧ mL (y - 1) = 12) := by
  have h := mL_or y
  have g := mL_or (y - 1)
  unfold Lg at h g
  omega
theorem wW_ny (y : Int) : wW (xX y) (mL y) (mL (y - 1)) = d1 y + 1 + d2 y := by
  have e1 : xX (y + 1) = xX y + 765433 * mL y := xX_next y
  have e2 : xX (y - 1) = xX y - 765433 * mL (y - 1) := by
    have := xX_next (y - 1)
    rw [show y - 1 + 1 = y by omega] at this
    omega
  unfold wW d2
  rw [d1_aA y, d1_aA (y + 1), d1_aA (y - 1), e1, e2]
  rw [show aA (xX y + 765433 * mL y) - 1 - (aA (xX y) - 1) = aA (xX y + 765433 * mL y) - aA (xX y) by omega, show aA (xX y) - 1 - (aA (xX y - 765433 * mL (y - 1)) - 1) = aA (xX y) - aA (xX y - 765433 * mL (y - 1)) by omega]
  omega
theorem lny_ny (y : Int) : lny y = ny y + 2 := by
  have hX : xX y = 25920 * (xX y / 25920) + xX y % 25920 := by omega
  have h0 : 0 ≤ xX y % 25920 := by omega
  have h1 : xX y % 25920 < 25920 := by omega
  have hw := wW_ny y
  rw [hX] at hw
  rw [lny_vV]
  unfold ny
  rcases mL_pair y with ⟨g1, g2⟩ | ⟨g1, g2⟩ | ⟨g1, g2⟩ <;> rw [g1, g2] at hw ⊢
  · rw [core_12_12 _ _ h0 h1] at hw; omega
  · rw [core_12_13 _ _ h0 h1] at hw; omega
  · rw [core_13_12 _ _ h0 h1] at hw; omega
theorem ylen_lny (y : Int) : ylen y = lny (y + 1) - lny y := by
  unfold ylen
  rw [lny_ny, lny_ny]
  omega
theorem ylen_in (y : Int) : (lng y = true ∧ (ylen y = 383 ∨ ylen y = 384 ∨ ylen y = 385)) ∨ (lng y = false ∧ (ylen y = 353 ∨ ylen y = 354 ∨ ylen y = 355)) := by
  have e := xX_next y
  have hl := mL_or y
  have ha := mL_pair y
  have hc := mL_pair (y + 1)
  rw [show y + 1 - 1 = y by omega] at hc
  have nn : ¬ (mL (y - 1) = 12 ∧ mL y = 12 ∧ mL (y + 1) = 12) := by
    have h := mL_or y
    have g := mL_or (y - 1)
    have k := mL_or (y + 1)
    unfold Lg at h g k
    omega
  have l1 := lny_vV (y + 1)
  rw [show y + 1 - 1 = y by omega] at l1
  rw [ylen_lny, l1, lny_vV y]
  have hs : 25920 * (xX (y + 1) / 25920) + xX (y + 1) % 25920 = 25920 * (xX y / 25920) + xX y % 25920 + 765433 * mL y := by omega
  have p0 : 0 ≤ xX y % 25920 := by omega
  have p1 : xX y % 25920 < 25920 := by omega
  have q0 : 0 ≤ xX (y + 1) % 25920 := by omega
  have q1 : xX (y + 1) % 25920 < 25920 := by omega
  clear e l1
  generalize xX y / 25920 = D at *
  generalize xX y % 25920 = P at *
  generalize xX (y + 1) / 25920 = D2 at *
  generalize xX (y + 1) % 25920 = P2 at *
  rcases ha with ⟨g1, g2⟩ | ⟨g1, g2⟩ | ⟨g1, g2⟩ <;> rcases hc with ⟨k1, k2⟩ | ⟨k1, k2⟩ | ⟨k1, k2⟩
  all_goals (first | (exfalso; omega) | skip)
  · have := len_12_12_13 D P p0 p1 D2 P2 q0 q1 (by rw [hs, g1])
    rw [g1, g2, k1]
    rcases hl with ⟨a1, a2, a3⟩ | ⟨a1, a2, a3⟩
    · omega
    · exact .inr ⟨a1, by omega⟩
  · have := len_13_12_12 D P p0 p1 D2 P2 q0 q1 (by rw [hs, g1])
    rw [g1, g2, k1]
    rcases hl with ⟨a1, a2, a3⟩ | ⟨a1, a2, a3⟩
    · omega
    · exact .inr ⟨a1, by omega⟩
  · have := len_13_12_13 D P p0 p1 D2 P2 q0 q1 (by rw [hs, g1])
    rw [g1, g2, k1]
    rcases hl with ⟨a1, a2, a3⟩ | ⟨a1, a2, a3⟩
    · omega
    · exact .inr ⟨a1, by omega⟩
  · have := len_12_13_12 D P p0 p1 D2 P2 q0 q1 (by rw [hs, g1])
    rw [g1, g2, k1]
    rcases hl with ⟨a1, a2, a3⟩ | ⟨a1, a2, a3⟩
    · exact .inl ⟨a1, by omega⟩
    · omega
theorem sg_zero (y a : Int) : sg y a 0 = 0 := rfl
theorem sg_succ (y a : Int) (n : Nat) : sg y a (n + 1) = sg y a n + ml y (a + n) := by
  unfold sg rangeKs
  rw [List.range_succ, List.map_append, List.map_append, List.sum_append]
  simp
end Mine
namespace Mine
open PySem PySem.W PyProof.Rows
def S7 (y : Int) : Nat → Int
  | 0 => 0
  | n + 1 => S7 y n + ml y (7 + n)
def S1 (y : Int) : Nat → Int
  | 0 => 0
  | n + 1 => S1 y n + ml y (1 + n)
theorem S7_0 (y : Int) : S7 y 0 = 0 := rfl
theorem S7_1 (y : Int) : S7 y 1 = 0 + ml y 7 := rfl
theorem S7_2 (y : Int) : S7 y 2 = 0 + ml y 7 + ml y 8 := rfl
theorem S7_3 (y : Int) : S7 y 3 = 0 + ml y 7 + ml y 8 + ml y 9 := rfl
theorem S7_4 (y : Int) : S7 y 4 = 0 + ml y 7 + ml y 8 + ml y 9 + ml y 10 := rfl
theorem S7_5 (y : Int) : S7 y 5 = 0 + ml y 7 + ml y 8 + ml y 9 + ml y 10 + ml y 11 := rfl
theorem S7_6 (y : Int) : S7 y 6 = 0 + ml y 7 + ml y 8 + ml y 9 + ml y 10 + ml y 11 + ml y 12 := rfl
theorem S7_7 (y : Int) : S7 y 7 = 0 + ml y 7 + ml y 8 + ml y 9 + ml y 10 + ml y 11 + ml y 12 + ml y 13 := rfl
theorem S1_0 (y : Int) : S1 y 0 = 0 := rfl
theorem S1_1 (y : Int) : S1 y 1 = 0 + ml y 1 := rfl
theorem S1_2 (y : Int) : S1 y 2 = 0 + ml y 1 + ml y 2 := rfl
theorem S1_3 (y : Int) : S1 y 3 = 0 + ml y 1 + ml y 2 + ml y 3 := rfl
theorem S1_4 (y : Int) : S1 y 4 = 0 + ml y 1 + ml y 2 + ml y 3 + ml y 4 := rfl
theorem S1_5 (y : Int) : S1 y 5 = 0 + ml y 1 + ml y 2 + ml y 3 + ml y 4 + ml y 5 := rfl
theorem S1_6 (y : Int) : S1 y 6 = 0 + ml y 1 + ml y 2 + ml y 3 + ml y 4 + ml y 5 + ml y 6 := rfl
theorem sg7 (y : Int) : ∀ n, sg y 7 n = S7 y n
  | 0 => rfl
  | n + 1 => by rw [sg_succ, sg7 y n]; rfl
theorem sg1 (y : Int) : ∀ n, sg y 1 n = S1 y n
  | 0 => rfl
  | n + 1 => by rw [sg_succ, sg1 y n]; rfl
theorem off_hi (y : Int) (n : Nat) (m : Int) (hm : m = 7 + n) : off y m = S7 y n := by
  unfold off
  rw [if_neg (by omega), show (m - 7).toNat = n by omega, sg7]
theorem off_lo (y : Int) (n : Nat) (m : Int) (hm : m = 1 + n) (h : m < 7) : off y m = S7 y (if lng y then 7 else 6) + S1 y n := by
  unfold off
  rw [if_pos h, show (m - 1).toNat = n by omega, sg1, sg7, lp_lng]
  congr 2
  cases lng y <;> rfl
theorem ml29 (y m : Int) (h : m = 2 ∨ m = 4 ∨ m = 6 ∨ m = 10 ∨ m = 13) : ml y m = 29 := by unfold ml; rw [if_pos h]
theorem ml30 (y m : Int) (h : m = 1 ∨ m = 3 ∨ m = 5 ∨ m = 7 ∨ m = 11) : ml y m = 30 := by
  unfold ml
  rw [if_neg (by omega), if_neg (by omega), if_neg (by omega), if_neg (by omega)]
theorem ml12 (y : Int) : ml y 12 = if lng y then 30 else 29 := by
  unfold ml
  rw [if_neg (by decide), lp_lng]
  cases lng y
  · rw [if_pos (by decide)]; rfl
  · rw [if_neg (by decide), if_neg (by omega), if_neg (by omega)]; rfl
theorem ml8 (y : Int) : ml y 8 = if ylen y % 10 = 5 then 30 else 29 := by
  unfold ml
  rw [if_neg (by decide), if_neg (by omega)]
  by_cases h : ylen y % 10 = 5
  · rw [if_pos h, if_neg (by omega), if_neg (by omega)]
  · rw [if_neg h, if_pos ⟨rfl, h⟩]
theorem ml9 (y : Int) : ml y 9 = if ylen y % 10 = 3 then 29 else 30 := by
  unfold ml
  rw [if_neg (by decide), if_neg (by omega), if_neg (by omega)]
  by_cases h : ylen y % 10 = 3
  · rw [if_pos h, if_pos ⟨rfl, h⟩]
  · rw [if_neg h, if_neg (by omega)]
/-- the months of a year in their order, each with its length -/
def rowsOf (y : Int) : List (Int × Int) :=
  [(7, ml y 7), (8, ml y 8), (9, ml y 9), (10, ml y 10), (11, ml y 11), (12, ml y 12)] ++ (if lng y then [(13, ml y 13)] else []) ++ [(1, ml y 1), (2, ml y 2), (3, ml y 3), (4, ml y 4), (5, ml y 5), (6, ml y 6)]
/-- what holds of the day c at which the months of the list begin -/
def Pc (y : Int) : Int → List (Int × Int) → Prop
  | c, [] => c = lny (y + 1)
  | c, (a, b) :: r => 1 ≤ a ∧ a ≤ 13 ∧ b = ml y a ∧ c = lny y + off y a ∧ Pc y (c + b) r
theorem sums (y : Int) : S7 y (if lng y then 7 else 6) + S1 y 6 = ylen y := by
  have h := ylen_in y
  have a8 := ml8 y
  have a9 := ml9 y
  have a12 := ml12 y
  have a13 := ml29 y 13 (by omega)
  have a7 := ml30 y 7 (by omega)
  have a10 := ml29 y 10 (by omega)
  have a11 := ml30 y 11 (by omega)
  have a1 := ml30 y 1 (by omega)
  have a2 := ml29 y 2 (by omega)
  have a3 := ml30 y 3 (by omega)
  have a4 := ml29 y 4 (by omega)
  have a5 := ml30 y 5 (by omega)
  have a6 := ml29 y 6 (by omega)
  have e6 : S7 y 6 = ml y 7 + ml y 8 + ml y 9 + ml y 10 + ml y 11 + ml y 12 := by simp [S7]
  have e7 : S7 y 7 = S7 y 6 + ml y 13 := by rfl
  have e1 : S1 y 6 = ml y 1 + ml y 2 + ml y 3 + ml y 4 + ml y 5 + ml y 6 := by simp [S1]
  rcases h with ⟨h, g⟩ | ⟨h, g⟩
  · rw [h] at a12 ⊢
    rw [if_pos rfl] at a12 ⊢
    rw [e7, e6, e1]
    rcases g with g | g | g <;> rw [g] at a8 a9 <;> simp at a8 a9 <;> omega
  · rw [h] at a12 ⊢
    rw [if_neg (by decide)] at a12 ⊢
    rw [e6, e1]
    rcases g with g | g | g <;> rw [g] at a8 a9 <;> simp at a8 a9 <;> omega
theorem Pc_start (y : Int) : Pc y (lny y) (rowsOf y) := by
  have hs := sums y
  have hy := ylen_lny y
  have h7 := off_hi y 0 7 rfl
  have h8 := off_hi y 1 8 rfl
  have h9 := off_hi y 2 9 rfl
  have h10 := off_hi y 3 10 rfl
  have h11 := off_hi y 4 11 rfl
  have h12 := off_hi y 5 12 rfl
  have h13 := off_hi y 6 13 rfl
  have h1 := off_lo y 0 1 rfl (by decide)
  have h2 := off_lo y 1 2 rfl (by decide)
  have h3 := off_lo y 2 3 rfl (by decide)
  have h4 := off_lo y 3 4 rfl (by decide)
  have h5 := off_lo y 4 5 rfl (by decide)
  have h6 := off_lo y 5 6 rfl (by decide)
  unfold rowsOf
  cases hl : lng y <;> rw [hl] at hs h1 h2 h3 h4 h5 h6 <;> simp only [Bool.false_eq_true, if_false, if_true, List.cons_append, List.nil_append, Pc, S7_0, S7_1, S7_2, S7_3, S7_4, S7_5, S7_6, S7_7, S1_0, S1_1, S1_2, S1_3, S1_4, S1_5, S1_6] at * <;> (repeat' apply And.intro) <;> first | trivial | rfl | omega
theorem any2_t {d a b : Int} (h : (([a, b] : List Int).any fun x => x == d) = true) : d = a ∨ d = b := by simp at h; omega
theorem any2_f {d a b : Int} (h : (([a, b] : List Int).any fun x => x == d) = false) : d ≠ a ∧ d ≠ b := by simp at h; omega
theorem m8t {y : Int} (h : (([355, 385] : List Int).any fun x => x == lny (y + 1) - lny y) = true) : 30 = ml y 8 := by
  have h := any2_t h
  rw [← ylen_lny] at h
  rw [ml8, if_pos (by omega)]
theorem m8f {y : Int} (h : (([355, 385] : List Int).any fun x => x == lny (y + 1) - lny y) = false) : 29 = ml y 8 := by
  have h := any2_f h
  rw [← ylen_lny] at h
  have g := ylen_in y
  rw [ml8, if_neg (by omega)]
theorem m9t {y : Int} (h : (([353, 383] : List Int).any fun x => x == lny (y + 1) - lny y) = true) : 29 = ml y 9 := by
  have h := any2_t h
  rw [← ylen_lny] at h
  rw [ml9, if_pos (by omega)]
theorem m9f {y : Int} (h : (([353, 383] : List Int).any fun x => x == lny (y + 1) - lny y) = false) : 30 = ml y 9 := by
  have h := any2_f h
  rw [← ylen_lny] at h
  have g := ylen_in y
  rw [ml9, if_neg (by omega)]
theorem rows_t {y b8 b9 : Int} (h8 : b8 = ml y 8) (h9 : b9 = ml y 9) (hl : lng y = true) : rowsOf y = [(7, 30), (8, b8), (9, b9), (10, 29), (11, 30), (12, 30), (13, 29), (1, 30), (2, 29), (3, 30), (4, 29), (5, 30), (6, 29)] := by
  unfold rowsOf
  rw [hl, ← h8, ← h9, ml12, hl, ml30 y 7 (by omega), ml29 y 10 (by omega), ml30 y 11 (by omega), ml29 y 13 (by omega), ml30 y 1 (by omega), ml29 y 2 (by omega), ml30 y 3 (by omega), ml29 y 4 (by omega), ml30 y 5 (by omega), ml29 y 6 (by omega)]
  rfl
theorem rows_f {y b8 b9 : Int} (h8 : b8 = ml y 8) (h9 : b9 = ml y 9) (hl : lng y = false) : rowsOf y = [(7, 30), (8, b8), (9, b9), (10, 29), (11, 30), (12, 29), (1, 30), (2, 29), (3, 30), (4, 29), (5, 30), (6, 29)] := by
  unfold rowsOf
  rw [hl, ← h8, ← h9, ml12, hl, ml30 y 7 (by omega), ml29 y 10 (by omega), ml30 y 11 (by omega), ml30 y 1 (by omega), ml29 y 2 (by omega), ml30 y 3 (by omega), ml29 y 4 (by omega), ml30 y 5 (by omega), ml29 y 6 (by omega)]
  rfl
end Mine
namespace Mine
open PySem PySem.Float64 PySem.W PyProof.Rows PySem.Calls
def flCk (x : UInt64) (i : Int) : Bool := match decode x with | .fin s m e => floorOf s m e == i | _ => false
theorem flCk_is {x : UInt64} {i : Int} (h : flCk x i = true) : ∃ s m e, decode x = .fin s m e ∧ floorOf s m e = i := by
  unfold flCk at h
  cases hd : decode x with
  | fin s m e => rw [hd] at h; exact ⟨s, m, e, rfl, eq_of_beq h⟩
  | nan => rw [hd] at h; cases h
  | inf s => rw [hd] at h; cases h
theorem fl_all : ∀ (m : Fin 12) (l : Fin 3) (d : Fin 31), flCk (Float64.add (Float64.add (Float64.ofFrac false (367 * (m.val + 1) - 362) 12) (Float64.ofInt (-(l.val : Int)))) (Float64.ofInt (d.val + 1 : Int))) ((367 * ((m.val : Int) + 1) - 362) / 12 + (-(l.val : Int)) + (d.val + 1 : Int)) = true := by decide +kernel
theorem fl_month {m l d : Int} (hm : 1 ≤ m ∧ m ≤ 12) (hl : -2 ≤ l ∧ l ≤ 0) (hd : 1 ≤ d ∧ d ≤ 31) :
    ∃ s k e, decode (Float64.add (Float64.add (Float64.ofFrac (decide (367 * m - 362 < 0) != decide ((12 : Int) < 0)) (367 * m - 362).natAbs (12 : Int).natAbs) (Float64.ofInt l)) (Float64.ofInt d)) = .fin s k e ∧ floorOf s k e = (367 * m - 362) / 12 + l + d := by
  have h := flCk_is (fl_all ⟨(m - 1).toNat, by omega⟩ ⟨(-l).toNat, by omega⟩ ⟨(d - 1).toNat, by omega⟩)
  dsimp only at h
  rw [decide_eq_false (p := 367 * m - 362 < 0) (by omega)]
  have e1 : (367 * m - 362).natAbs = 367 * ((m - 1).toNat + 1) - 362 := by omega
  have e2 : (((m - 1).toNat : Nat) : Int) + 1 = m := by omega
  have e3 : -(((-l).toNat : Nat) : Int) = l := by omega
  have e4 : (((d - 1).toNat : Nat) : Int) + 1 = d := by omega
  rw [e2, e3, e4] at h
  rw [e1]
  exact h
theorem lit_greg : (4700144277945057280 : UInt64) = hf 3442851 := by
  unfold hf; decide +kernel
theorem lit_m : (4681505006791163904 : UInt64) = hf 196992 := by
  unfold hf; decide +kernel
theorem lit_d : (4720097339732131840 : UInt64) = hf 71950702 := by
  unfold hf; decide +kernel
section
variable {prog : Program} {w : World} {A : Around} {E : Value → Shared → Prop} {s : Shared} {t u : Tok} {Q : Value → Shared → Prop} {x y : UInt64} {a b n : Int}
theorem r_floor_mon {m l d : Int} (hA : A.handled = none) (hm : 1 ≤ m ∧ m ≤ 12) (hl : -2 ≤ l ∧ l ≤ 0) (hd : 1 ≤ d ∧ d ≤ 31) (h : Q (.int ((367 * m - 362) / 12 + l + d) s.toks) { s with toks := s.toks + 1 }) :
    wpAny (model prog w) A (call (.builtin "math.floor") [.float (Float64.add (Float64.add (Float64.ofFrac (decide (367 * m - 362 < 0) != decide ((12 : Int) < 0)) (367 * m - 362).natAbs (12 : Int).natAbs) (Float64.ofInt l)) (Float64.ofInt d)) t]) Q E s :=
  floor_of hA (fl_month hm hl hd) h
theorem r_floor_ffg (hA : A.handled = none) (ha : Sm a) (hb : Sm b) (h0 : 0 < b) (h : ∀ i, i = a / b → Q (.int i s.toks) { s with toks := s.toks + 1 }) : wpAny (model prog w) A (call (.builtin "math.floor") [.float (Float64.div (hf a) (hf b)) t]) Q E s :=
  r_floor_ff hA ha hb h0 (h _ rfl)
theorem r_floor_hfg (hA : A.handled = none) (hx : x = hf a) (ha : Sm a) (h : ∀ i, i = a / 2 → Q (.int i s.toks) { s with toks := s.toks + 1 }) : wpAny (model prog w) A (call (.builtin "math.floor") [.float x t]) Q E s :=
  r_floor hA hx ha (h _ rfl)
theorem r_mod_fig (hx : x = hf a) (ha : Sm a) (hn : Sm n) (h0 : 0 < n) (h : ∀ i, i = a % (2 * n) → Q (.float (hf i) s.toks) { s with toks := s.toks + 1 }) : wpAny (model prog w) A (binaryOp .Mod (.float x t) (.int n u)) Q E s :=
  r_mod_fi hx ha hn h0 (h _ rfl)
end
theorem in_K {prog : Program} {w : World} {A : Around} {E : Value → Shared → Prop} {s : Shared} {u : Tok} {Q : Value → Shared → Prop} {K : Frag} {h₀ : Heap} {L : Addr} {m : Str → Option Value} {a : Addr} {o : Obj} {items : Array Value} {nn : Nat} {x : Int} (ns : List Int)
    (X : K.In h₀) (F : Fr h₀ L s.heap m) (ho : K.lookup a = some o) (hc : o.cls = .type "tuple") (hd : o.data = .seq items nn) (hi : IntsAre items.toList ns) (h : Q (.bool (ns.any (· == x))) s) :
    wpAny (model prog w) A (compareOp .In (.int x u) (.ref a)) Q E s :=
  in_tuple_ints ⟨o, F.keep _ _ (X _ _ ho), hc, nn, hd⟩ hi h
end Mine
namespace Mine
open PySem PySem.Float64 PySem.W PyProof.Rows
def gl (y : Int) : Bool := decide (y % 4 = 0 ∧ (y % 100 ≠ 0 ∨ y % 400 = 0))
def gJ (y : Int) : Int := 365 * (y - 1) + (y - 1) / 4 - (y - 1) / 100 + (y - 1) / 400
def gla (l : Bool) (m : Int) : Int := if m ≤ 2 then 0 else if l then -1 else -2
def gcum (l : Bool) (m : Int) : Int := (367 * m - 362) / 12 + gla l m
def gszl (l : Bool) (m : Int) : Int := if m = 2 then (if l then 29 else 28) else if m = 4 ∨ m = 6 ∨ m = 9 ∨ m = 11 then 30 else 31
/-- the day number, doubled, as the float holds it -/
def gjd (y m d : Int) : Int := 3442849 + 2 * (gJ y + (gcum (gl y) m + d))
def gq (n : Int) : Int := (n - 1721426) / 146097
def gr (n : Int) : Int := (n - 1721426) % 146097
def gc (n : Int) : Int := if gr n / 36524 = 4 then 3 else gr n / 36524
def gr2 (n : Int) : Int := gr n - 36524 * gc n
def gk (n : Int) : Int := gr2 n / 1461
def gr3 (n : Int) : Int := gr2 n - 1461 * gk n
def gj (n : Int) : Int := if gr3 n / 365 = 4 then 3 else gr3 n / 365
def gyd (n : Int) : Int := gr3 n - 365 * gj n
def gY (n : Int) : Int := 400 * gq n + 100 * gc n + 4 * gk n + gj n + 1
structure GB (n q r c k j y : Int) : Prop where
  e0 : n - 1721426 = 146097 * q + r
  e1 : r = 36524 * c + 1461 * k + 365 * j + y
  r0 : 0 ≤ r ∧ r < 146097
  c0 : 0 ≤ c ∧ c ≤ 3
  k0 : 0 ≤ k ∧ k ≤ 24
  j0 : 0 ≤ j ∧ j ≤ 3
  y0 : 0 ≤ y ∧ y ≤ 365
  y1 : y = 365 → j = 3
  y2 : y = 365 → k = 24 → c = 3
  s2 : r - 36524 * c ≤ 36524
  s3 : r - 36524 * c - 1461 * k ≤ 1460
theorem gb (n : Int) : GB n (gq n) (gr n) (gc n) (gk n) (gj n) (gyd n) := by
  have hr0 : 0 ≤ gr n := by unfold gr; omega
  have hr1 : gr n < 146097 := by unfold gr; omega
  have e0 : n - 1721426 = 146097 * gq n + gr n := by unfold gq gr; omega
  have hc : (gr n / 36524 = 4 ∧ gc n = 3) ∨ (gr n / 36524 ≠ 4 ∧ gc n = gr n / 36524) := by
    unfold gc; split <;> omega
  have hk : gk n = gr2 n / 1461 := rfl
  have h2 : gr2 n = gr n - 36524 * gc n := rfl
  have h3 : gr3 n = gr2 n - 1461 * gk n := rfl
  have hj : (gr3 n / 365 = 4 ∧ gj n = 3) ∨ (gr3 n / 365 ≠ 4 ∧ gj n = gr3 n / 365) := by
    unfold gj; split <;> omega
  have hy : gyd n = gr3 n - 365 * gj n := rfl
  generalize gyd n = y at *
  generalize gj n = j at *
  generalize gr3 n = r3 at *
  generalize gk n = k at *
  generalize gr2 n = r2 at *
  generalize gc n = c at *
  generalize gr n = r at *
  generalize gq n = q at *
  have c1 : 0 ≤ c ∧ c ≤ 3 := by omega
  have c2 : 0 ≤ r2 ∧ r2 ≤ 36524 ∧ (r2 = 36524 → c = 3) := by omega
  have k1 : 0 ≤ k ∧ k ≤ 24 := by omega
  have k2 : 0 ≤ r3 ∧ r3 ≤ 1460 ∧ (k = 24 → r3 = 1460 → c = 3) := by omega
  have j1 : 0 ≤ j ∧ j ≤ 3 := by omega
  have y1 : 0 ≤ y ∧ y ≤ 365 ∧ (y = 365 → j = 3 ∧ r3 = 1460) := by omega
  exact ⟨e0, by omega, by omega, c1, k1, j1, by omega, by omega, by omega, by omega, by omega⟩
theorem gY_is (n : Int) : gY n = 400 * gq n + 100 * gc n + 4 * gk n + gj n + 1 := rfl
theorem gJ_Y (n : Int) : gJ (gY n) + gyd n = n - 1721426 := by
  have h := gb n
  rw [gY_is]
  generalize gyd n = y at *
  generalize gj n = j at *
  generalize gk n = k at *
  generalize gc n = c at *
  generalize gr n = r at *
  generalize gq n = q at *
  obtain ⟨e0, e1, r0, c0, k0, j0, y0, y1, y2, -, -⟩ := h
  unfold gJ
  have a1 : (400 * q + 100 * c + 4 * k + j + 1 - 1) / 4 = 100 * q + 25 * c + k := by omega
  have a2 : (400 * q + 100 * c + 4 * k + j + 1 - 1) / 100 = 4 * q + c := by omega
  have a3 : (400 * q + 100 * c + 4 * k + j + 1 - 1) / 400 = q := by omega
  rw [a1, a2, a3]
  omega
theorem g_long (n : Int) (h : gyd n = 365) : gl (gY n) = true := by
  have g := gb n
  unfold gl
  rw [gY_is]
  generalize gyd n = y at *
  generalize gj n = j at *
  generalize gk n = k at *
  generalize gc n = c at *
  generalize gr n = r at *
  generalize gq n = q at *
  obtain ⟨e0, e1, r0, c0, k0, j0, y0, y1, y2, -, -⟩ := g
  apply decide_eq_true
  have := y1 h
  omega
/-- the month of a day of the year -/
def gmon (l : Bool) (y : Int) : Int :=
  if y < gcum l 2 then 1 else if y < gcum l 3 then 2 else if y < gcum l 4 then 3 else if y < gcum l 5 then 4 else if y < gcum l 6 then 5 else if y < gcum l 7 then 6
  else if y < gcum l 8 then 7 else if y < gcum l 9 then 8 else if y < gcum l 10 then 9 else if y < gcum l 11 then 10 else if y < gcum l 12 then 11 else 12
def gM (n : Int) : Int := gmon (gl (gY n)) (gyd n)
def gD (n : Int) : Int := gyd n - gcum (gl (gY n)) (gM n) + 1
theorem gsumT : gcum true 1 = 0 ∧ gcum true 2 = 31 ∧ gcum true 3 = 60 ∧ gcum true 4 = 91 ∧ gcum true 5 = 121 ∧ gcum true 6 = 152 ∧ gcum true 7 = 182 ∧ gcum true 8 = 213 ∧ gcum true 9 = 244 ∧ gcum true 10 = 274 ∧ gcum true 11 = 305 ∧ gcum true 12 = 335 := by decide
theorem gsumF : gcum false 1 = 0 ∧ gcum false 2 = 31 ∧ gcum false 3 = 59 ∧ gcum false 4 = 90 ∧ gcum false 5 = 120 ∧ gcum false 6 = 151 ∧ gcum false 7 = 181 ∧ gcum false 8 = 212 ∧ gcum false 9 = 243 ∧ gcum false 10 = 273 ∧ gcum false 11 = 304 ∧ gcum false 12 = 334 := by decide
theorem gcum1 (l : Bool) : gcum l 1 = 0 := by cases l; exact gsumF.1; exact gsumT.1
theorem gmon_all : ∀ k : Fin 366, (1 ≤ gmon true (k.val : Int) ∧ gmon true (k.val : Int) ≤ 12 ∧ gcum true (gmon true (k.val : Int)) ≤ (k.val : Int) ∧ (k.val : Int) < gcum true (gmon true (k.val : Int)) + gszl true (gmon true (k.val : Int))) ∧
    (k.val ≠ 365 → 1 ≤ gmon false (k.val : Int) ∧ gmon false (k.val : Int) ≤ 12 ∧ gcum false (gmon false (k.val : Int)) ≤ (k.val : Int) ∧ (k.val : Int) < gcum false (gmon false (k.val : Int)) + gszl false (gmon false (k.val : Int))) := by decide +kernel
theorem gmon_in (l : Bool) (y : Int) (h0 : 0 ≤ y) (h1 : y ≤ 365) (h2 : y = 365 → l = true) : 1 ≤ gmon l y ∧ gmon l y ≤ 12 ∧ gcum l (gmon l y) ≤ y ∧ y < gcum l (gmon l y) + gszl l (gmon l y) := by
  have h := gmon_all ⟨y.toNat, by omega⟩
  have e : ((y.toNat : Nat) : Int) = y := by omega
  dsimp only at h
  rw [e] at h
  cases l with
  | true => exact h.1
  | false => exact h.2 (fun g => nomatch h2 (by omega))
theorem gmon_day : ∀ (m : Fin 12) (d : Fin 31), ((d.val : Int) < gszl true (m.val + 1) → gmon true (gcum true (m.val + 1) + d.val) = m.val + 1) ∧ ((d.val : Int) < gszl false (m.val + 1) → gmon false (gcum false (m.val + 1) + d.val) = m.val + 1) := by decide +kernel
theorem gszl_31 (l : Bool) (m : Int) : gszl l m ≤ 31 := by unfold gszl; cases l <;> simp <;> (repeat' split) <;> omega
theorem gmon_is (l : Bool) (y m : Int) (h0 : 0 ≤ y) (h1 : y ≤ 365) (h2 : y = 365 → l = true) (hm : 1 ≤ m ∧ m ≤ 12) (h3 : gcum l m ≤ y) (h4 : y < gcum l m + gszl l m) : m = gmon l y := by
  have g := gszl_31 l m
  have h := gmon_day ⟨(m - 1).toNat, by omega⟩ ⟨(y - gcum l m).toNat, by omega⟩
  have e1 : (((m - 1).toNat : Nat) : Int) + 1 = m := by omega
  have e2 : (((y - gcum l m).toNat : Nat) : Int) = y - gcum l m := by omega
  dsimp only at h
  rw [e1, e2] at h
  have e3 : gcum l m + (y - gcum l m) = y := by omega
  cases l with
  | true => rw [e3] at h; exact (h.1 (by omega)).symm
  | false => rw [e3] at h; exact (h.2 (by omega)).symm
theorem gyd_in (n : Int) : 0 ≤ gyd n ∧ gyd n ≤ 365 ∧ (gyd n = 365 → gl (gY n) = true) := ⟨(gb n).y0.1, (gb n).y0.2, g_long n⟩
theorem gM_in (n : Int) : 1 ≤ gM n ∧ gM n ≤ 12 ∧ 1 ≤ gD n ∧ gD n ≤ gszl (gl (gY n)) (gM n) := by
  obtain ⟨a, b, c⟩ := gyd_in n
  obtain ⟨h1, h2, h3, h4⟩ := gmon_in (gl (gY n)) (gyd n) a b c
  unfold gD gM
  omega
theorem gjd_at (n : Int) : gjd (gY n) (gM n) (gD n) = 2 * (n - 1) + 1 := by
  have h := gJ_Y n
  unfold gjd gD
  omega
theorem gY_in (n : Int) (h : 300000 ≤ n ∧ n ≤ 37000000000) : -4000 ≤ gY n ∧ gY n ≤ 110000000 := by
  have g := gb n
  rw [gY_is]
  generalize gyd n = y at *
  generalize gj n = j at *
  generalize gk n = k at *
  generalize gc n = c at *
  generalize gr n = r at *
  generalize gq n = q at *
  obtain ⟨e0, e1, r0, c0, k0, j0, y0, y1, y2, -, -⟩ := g
  omega
/-- the month by the program's formula -/
def gmF (l : Bool) (y : Int) : Int := (2 * ((y + (if y < 58 + (if l then 1 else 0) then 0 else if l then 1 else 2)) * 12 + 373)) / (2 * 367)
theorem gmF_all : ∀ k : Fin 366, gmF true (k.val : Int) = gmon true (k.val : Int) ∧ (k.val ≠ 365 → gmF false (k.val : Int) = gmon false (k.val : Int)) := by decide +kernel
theorem gmF_is (l : Bool) (y : Int) (h0 : 0 ≤ y) (h1 : y ≤ 365) (h2 : y = 365 → l = true) : gmF l y = gmon l y := by
  have h := gmF_all ⟨y.toNat, by omega⟩
  have e : ((y.toNat : Nat) : Int) = y := by omega
  dsimp only at h
  rw [e] at h
  cases l with
  | true => exact h.1
  | false => exact h.2 (fun g => nomatch h2 (by omega))
end Mine
namespace Mine
open PySem PySem.Float64 PySem.W PyProof.Rows
section
variable {n v i1 q i3 c i5 k i7 j : Int} (hv : v = 2 * (n - 1) + 1) (h1 : i1 = (v - 1) / 2) (hq : q = (2 * i1 + 1 - 3442851) / (2 * 146097)) (h3 : i3 = (2 * i1 + 1 - 3442851) % (2 * 146097))
  (hc : c = i3 / (2 * 36524)) (h5 : i5 = i3 % (2 * 36524)) (hk : k = i5 / (2 * 1461)) (h7 : i7 = i5 % (2 * 1461)) (hj : j = i7 / (2 * 365))
include hv h1 hq h3 hc h5 hk h7 hj
theorem gY_of : (c = 4 ∨ j = 4 → q * 400 + c * 100 + k * 4 + j = gY n) ∧ (c ≠ 4 → j ≠ 4 → q * 400 + c * 100 + k * 4 + j + 1 = gY n) := by
  have h := gb n
  rw [gY_is]
  generalize gyd n = y' at *
  generalize gj n = j' at *
  generalize gk n = k' at *
  generalize gc n = c' at *
  generalize gr n = r' at *
  generalize gq n = q' at *
  obtain ⟨e0, e1, r0, c0, k0, j0, y0, y1, y2, s2, s3⟩ := h
  have e2 : i1 = n - 1 := by omega
  have e3 : 2 * i1 + 1 - 3442851 = 2 * (n - 1721426) := by omega
  rw [e3] at hq h3
  have f1 : q = q' := by omega
  have f2 : i3 = 2 * r' := by omega
  subst f1
  rw [f2] at hc h5
  clear hq h3 e3 e2 e0
  have f3 : (c = 4 ∧ c' = 3 ∧ r' = 146096) ∨ (c ≠ 4 ∧ c = c') := by omega
  rcases f3 with ⟨g1, g2, g3⟩ | ⟨g1, g2⟩
  · subst g1; subst g2; subst g3
    have : i5 = 0 := by omega
    subst this
    have : k' = 24 ∧ j' = 3 := by omega
    omega
  · subst g2
    have f4 : i5 = 2 * (r' - 36524 * c) := by omega
    rw [f4] at hk h7
    have f5 : k = k' := by omega
    subst f5
    have f6 : i7 = 2 * (r' - 36524 * c - 1461 * k) := by omega
    rw [f6] at hj
    omega
theorem gY_t1 (g : c = 4) : q * 400 + c * 100 + k * 4 + j = gY n := (gY_of hv h1 hq h3 hc h5 hk h7 hj).1 (.inl g)
theorem gY_t2 (g : j = 4) : q * 400 + c * 100 + k * 4 + j = gY n := (gY_of hv h1 hq h3 hc h5 hk h7 hj).1 (.inr g)
theorem gY_f (g : c ≠ 4) (g2 : j ≠ 4) : q * 400 + c * 100 + k * 4 + j + 1 = gY n := (gY_of hv h1 hq h3 hc h5 hk h7 hj).2 g g2
end
/-- the first of January of the year of the day n, and the first of its month -/
theorem gjd_1 (n : Int) : gjd (gY n) 1 1 = 2 * (n - 1) + 1 - 2 * gyd n := by
  have h := gJ_Y n
  unfold gjd
  rw [gcum1]
  omega
theorem gjd_m (n : Int) : gjd (gY n) (gM n) 1 = 2 * (n - 1) + 1 - 2 * (gD n - 1) := by
  have h := gjd_at n
  unfold gjd at *
  omega
theorem gM_of (n : Int) : gmF (gl (gY n)) (gyd n) = gM n := by
  obtain ⟨a, b, c⟩ := gyd_in n
  exact gmF_is _ _ a b c
section
variable {n v i1 m : Int} {l : Bool} (hgl : gl (gY n) = l) (hv : v = 2 * (n - 1) + 1) (h1 : i1 = (v - 1) / 2)
include hgl hv h1
theorem mon_t (hc : 2 * i1 + 1 - (2 * (n - 1) + 1 - 2 * gyd n) < 2 * (58 + if l = true then 1 else 0)) (hm : m = ((2 * i1 + 1 - (2 * (n - 1) + 1 - 2 * gyd n) + 2 * 0) * 12 + 2 * 373) / (2 * 367)) : m = gM n := by
  have e : 2 * i1 + 1 - (2 * (n - 1) + 1 - 2 * gyd n) = 2 * gyd n := by omega
  rw [e] at hc hm
  rw [← gM_of n, hgl]
  unfold gmF
  clear hgl
  cases l <;> simp only [Bool.false_eq_true, if_false, if_true] at hc ⊢ <;> rw [if_pos (by omega)] <;> omega
theorem mon_f1 (hl : l = true) (hc : ¬ 2 * i1 + 1 - (2 * (n - 1) + 1 - 2 * gyd n) < 2 * (58 + if l = true then 1 else 0)) (hm : m = ((2 * i1 + 1 - (2 * (n - 1) + 1 - 2 * gyd n) + 2 * 1) * 12 + 2 * 373) / (2 * 367)) : m = gM n := by
  have e : 2 * i1 + 1 - (2 * (n - 1) + 1 - 2 * gyd n) = 2 * gyd n := by omega
  rw [e] at hc hm
  rw [← gM_of n, hgl]
  subst hl
  unfold gmF
  simp only [if_true] at hc ⊢
  rw [if_neg (by omega)]
  omega
theorem mon_f2 (hl : l = false) (hc : ¬ 2 * i1 + 1 - (2 * (n - 1) + 1 - 2 * gyd n) < 2 * (58 + if l = true then 1 else 0)) (hm : m = ((2 * i1 + 1 - (2 * (n - 1) + 1 - 2 * gyd n) + 2 * 2) * 12 + 2 * 373) / (2 * 367)) : m = gM n := by
  have e : 2 * i1 + 1 - (2 * (n - 1) + 1 - 2 * gyd n) = 2 * gyd n := by omega
  rw [e] at hc hm
  rw [← gM_of n, hgl]
  subst hl
  unfold gmF
  simp only [Bool.false_eq_true, if_false] at hc ⊢
  rw [if_neg (by omega)]
  omega
end
theorem gD_31 (n : Int) : gD n ≤ 31 := by
  have h := (gM_in n).2.2.2
  have g := gszl_31 (gl (gY n)) (gM n)
  omega
structure LMark (k : Nat) : Prop where
  mk :: (one : True)
theorem lmark (k : Nat) : LMark k := ⟨trivial⟩
/-- a turn of a loop that takes S away and counts Y -/
def Tk (S Y m c₀ d₀ : Int) (j : Nat) (c d : Int) : Prop := ∃ i : Int, 0 ≤ i ∧ i ≤ j ∧ (i < j → c < S) ∧ c = c₀ - S * i ∧ d = d₀ + Y * i ∧ 0 ≤ c ∧ (j : Int) ≤ m + j
theorem Tk.start {S Y m c d : Int} (h : 0 ≤ c) (hm : 0 ≤ m) : Tk S Y m c d 0 c d := ⟨0, by omega, by omega, by omega, by omega, by omega, h, by omega⟩
theorem Tk.nn {S Y m c₀ d₀ c d : Int} {j : Nat} (h : Tk S Y m c₀ d₀ j c d) : 0 ≤ c := by
  obtain ⟨i, a1, a2, a3, a4, a5, a6, a7⟩ := h; exact a6
theorem Tk.yes {S Y m c₀ d₀ c d : Int} {j : Nat} (h : Tk S Y m c₀ d₀ j c d) (g : S ≤ c) (h0 : 0 < S) : Tk S Y m c₀ d₀ (j + 1) (c - S) (d + Y) := by
  obtain ⟨i, a1, a2, a3, a4, a5, a6, a7⟩ := h
  refine ⟨i + 1, by omega, by omega, fun h => ?_, ?_, ?_, by omega, by omega⟩
  · have := a3 (by omega); omega
  · rw [a4, Int.mul_add]; omega
  · rw [a5, Int.mul_add]; omega
theorem Tk.no {S Y m c₀ d₀ c d : Int} {j : Nat} (h : Tk S Y m c₀ d₀ j c d) (g : ¬ S ≤ c) : Tk S Y m c₀ d₀ (j + 1) c d := by
  obtain ⟨i, a1, a2, a3, a4, a5, a6, a7⟩ := h
  exact ⟨i, by omega, by omega, fun _ => by omega, a4, a5, a6, by omega⟩
theorem u3 {S i c c1 R dr : Int} (a : c1 = dr - S * i) (i0 : 0 ≤ i) (i1 : i ≤ 3) (h : i < 3 → c1 < S) (c0 : 0 ≤ c1) (e : dr = S * c + R) (r0 : 0 ≤ R) (r1 : c < 3 → R < S) (k0 : 0 ≤ c) (k1 : c ≤ 3) (hS : 0 < S) : i = c ∧ c1 = R := by
  have hi : i = 0 ∨ i = 1 ∨ i = 2 ∨ i = 3 := by omega
  have hk : c = 0 ∨ c = 1 ∨ c = 2 ∨ c = 3 := by omega
  rcases hi with rfl | rfl | rfl | rfl <;> rcases hk with rfl | rfl | rfl | rfl <;> (first | (constructor <;> omega) | (exfalso; omega))
theorem u24 {i c c1 R dr : Int} (a : c1 = dr - 1461 * i) (i0 : 0 ≤ i) (i1 : i ≤ 24) (h : i < 24 → c1 < 1461) (c0 : 0 ≤ c1) (e : dr = 1461 * c + R) (r0 : 0 ≤ R) (r1 : R ≤ 1460) (k1 : c ≤ 24) : i = c ∧ c1 = R := by
  have : i ≤ c := by omega
  have : c ≤ i := by
    by_cases g : i < 24
    · have := h g; omega
    · omega
  omega
theorem h_e1 {r c k j y : Int} (e1 : r = 36524 * c + 1461 * k + 365 * j + y) : r = 36524 * c + (1461 * k + (365 * j + y)) := by omega
theorem h_p {k j y : Int} (a : 0 ≤ k) (b : 0 ≤ j) (c : 0 ≤ y) : 0 ≤ 1461 * k + (365 * j + y) := by omega
theorem h_p2 {j y : Int} (b : 0 ≤ j) (c : 0 ≤ y) : 0 ≤ 365 * j + y := by omega
theorem h_fin {q y1 y2 y3 i k l c' k' j' : Int} (a : y1 = 400 * q + 1 + 100 * i) (b : y2 = y1 + 4 * k) (d : y3 = y2 + 1 * l) (f1 : i = c') (f3 : k = k') (f5 : l = j') : y3 = 400 * q + 100 * c' + 4 * k' + j' + 1 := by omega
theorem gR2 {n q r c k j y : Int} (h : GB n q r c k j y) : (c < 3 → 1461 * k + (365 * j + y) < 36524) ∧ 365 * j + y ≤ 1460 ∧ (j < 3 → y < 365) := by
  obtain ⟨e0, e1, r0, c0, k0, j0, y0, z1, z2, s2, s3⟩ := h
  clear e0 r0
  have g3 : 365 * j + y ≤ 1460 := by omega
  clear s3
  refine ⟨fun hc => ?_, g3, fun hj => ?_⟩
  · have g1 : 1461 * k + (365 * j + y) ≤ 36524 := by omega
    clear s2 e1
    have z3 : y = 365 → k ≠ 24 := fun a b => by have := z2 a b; omega
    clear z2 c0 hc
    omega
  · have : y ≠ 365 := fun a => by have := z1 a; omega
    omega
section
variable {n dq dr y0 c1 y1 c2 y2 c3 y3 : Int} (hdq : dq = (n - 1721426) / 146097) (hdr : dr = (n - 1721426) % 146097)
  (t1 : Tk 36524 100 0 dr (400 * dq + 1) (3 - 0 : Int).toNat c1 y1) (t2 : Tk 1461 4 0 c1 y1 (24 - 0 : Int).toNat c2 y2) (t3 : Tk 365 1 0 c2 y2 (3 - 0 : Int).toNat c3 y3)
include hdq hdr t1 t2 t3
theorem lg_of : y3 = gY n ∧ c3 = gyd n := by
  have h := gb n
  have eq : gq n = dq := hdq.symm
  have er : gr n = dr := hdr.symm
  rw [eq, er] at h
  rw [gY_is, eq]
  clear eq er hdq hdr
  obtain ⟨i, a1, a2, a3, a4, a5, a6, -⟩ := t1
  obtain ⟨k, b1, b2, b3, b4, b5, b6, -⟩ := t2
  obtain ⟨l, d1, d2, d3, d4, d5, d6, -⟩ := t3
  have q1 : (((3 - 0 : Int).toNat : Nat) : Int) = 3 := rfl
  have q2 : (((24 - 0 : Int).toNat : Nat) : Int) = 24 := rfl
  rw [q1] at a2 a3 d2 d3
  rw [q2] at b2 b3
  clear q1 q2
  generalize gyd n = y' at *
  generalize gj n = j' at *
  generalize gk n = k' at *
  generalize gc n = c' at *
  obtain ⟨g1, g2, g3⟩ := gR2 h
  obtain ⟨e0, e1, r0, c0, k0, j0, y0, z1, z2, s2, s3⟩ := h
  obtain ⟨f1, f2⟩ := u3 (S := 36524) a4 a1 a2 a3 a6 (R := 1461 * k' + (365 * j' + y')) (c := c') (h_e1 e1) (h_p k0.1 j0.1 y0.1) g1 c0.1 c0.2 (by decide)
  obtain ⟨f3, f4⟩ := u24 b4 b1 b2 b3 b6 (R := 365 * j' + y') (c := k') f2 (h_p2 j0.1 y0.1) g2 k0.2
  obtain ⟨f5, f6⟩ := u3 (S := 365) d4 d1 d2 d3 d6 (R := y') (c := j') f4 y0.1 g3 j0.1 j0.2 (by decide)
  exact ⟨h_fin a5 b5 d5 f1 f3 f5, f6⟩
theorem lg_y : y3 = gY n := (lg_of hdq hdr t1 t2 t3).1
theorem lg_c : c3 = gyd n := (lg_of hdq hdr t1 t2 t3).2
end
theorem mon_at {n m c s : Int} {l : Bool} (hl : gl (gY n) = l) (hm : 1 ≤ m ∧ m ≤ 12) (hc : gcum l m = c) (hs : gszl l m = s) (h1 : c ≤ gyd n) (h2 : gyd n < c + s) : m = gM n ∧ gyd n - c + 1 = gD n := by
  obtain ⟨a, b, d⟩ := gyd_in n
  rw [hl] at d
  have e : m = gM n := by
    unfold gM
    rw [hl]
    exact gmon_is l _ _ a b d hm (by omega) (by omega)
  refine ⟨e, ?_⟩
  unfold gD
  rw [← e, hl, hc]
theorem gyd_f {n : Int} (hl : gl (gY n) = false) : gyd n ≤ 364 := by
  obtain ⟨a, b, d⟩ := gyd_in n
  have : gyd n ≠ 365 := fun h => by rw [d h] at hl; cases hl
  omega
end Mine
namespace Mine
open PySem PySem.Float64 PySem.W PyProof.Rows
theorem lg_t1 {n : Int} (hl : gl (gY n) = true) (h1 : gyd n < 31) : 1 = gM n ∧ gyd n + 1 = gD n := by
  have g := gyd_in n
  have h := mon_at (m := 1) (c := 0) (s := 31) hl (by decide) (by decide) (by decide) (by omega) (by omega)
  omega
theorem lg_t2 {n : Int} (hl : gl (gY n) = true) (h0 : ¬ gyd n < 31) (h1 : gyd n - 31 < 29) : 1 + 1 = gM n ∧ gyd n - 31 + 1 = gD n := by
  have g := gyd_in n
  have h := mon_at (m := 2) (c := 31) (s := 29) hl (by decide) (by decide) (by decide) (by omega) (by omega)
  omega
theorem lg_t3 {n : Int} (hl : gl (gY n) = true) (h0 : ¬ gyd n - 31 < 29) (h1 : gyd n - 31 - 29 < 31) : 1 + 1 + 1 = gM n ∧ gyd n - 31 - 29 + 1 = gD n := by
  have g := gyd_in n
  have h := mon_at (m := 3) (c := 60) (s := 31) hl (by decide) (by decide) (by decide) (by omega) (by omega)
  omega
theorem lg_t4 {n : Int} (hl : gl (gY n) = true) (h0 : ¬ gyd n - 31 - 29 < 31) (h1 : gyd n - 31 - 29 - 31 < 30) : 1 + 1 + 1 + 1 = gM n ∧ gyd n - 31 - 29 - 31 + 1 = gD n := by
  have g := gyd_in n
  have h := mon_at (m := 4) (c := 91) (s := 30) hl (by decide) (by decide) (by decide) (by omega) (by omega)
  omega
theorem lg_t5 {n : Int} (hl : gl (gY n) = true) (h0 : ¬ gyd n - 31 - 29 - 31 < 30) (h1 : gyd n - 31 - 29 - 31 - 30 < 31) : 1 + 1 + 1 + 1 + 1 = gM n ∧ gyd n - 31 - 29 - 31 - 30 + 1 = gD n := by
  have g := gyd_in n
  have h := mon_at (m := 5) (c := 121) (s := 31) hl (by decide) (by decide) (by decide) (by omega) (by omega)
  omega
theorem lg_t6 {n : Int} (hl : gl (gY n) = true) (h0 : ¬ gyd n - 31 - 29 - 31 - 30 < 31) (h1 : gyd n - 31 - 29 - 31 - 30 - 31 < 30) : 1 + 1 + 1 + 1 + 1 + 1 = gM n ∧ gyd n - 31 - 29 - 31 - 30 - 31 + 1 = gD n := by
  have g := gyd_in n
  have h := mon_at (m := 6) (c := 152) (s := 30) hl (by decide) (by decide) (by decide) (by omega) (by omega)
  omega
theorem lg_t7 {n : Int} (hl : gl (gY n) = true) (h0 : ¬ gyd n - 31 - 29 - 31 - 30 - 31 < 30) (h1 : gyd n - 31 - 29 - 31 - 30 - 31 - 30 < 31) : 1 + 1 + 1 + 1 + 1 + 1 + 1 = gM n ∧ gyd n - 31 - 29 - 31 - 30 - 31 - 30 + 1 = gD n := by
  have g := gyd_in n
  have h := mon_at (m := 7) (c := 182) (s := 31) hl (by decide) (by decide) (by decide) (by omega) (by omega)
  omega
theorem lg_t8 {n : Int} (hl : gl (gY n) = true) (h0 : ¬ gyd n - 31 - 29 - 31 - 30 - 31 - 30 < 31) (h1 : gyd n - 31 - 29 - 31 - 30 - 31 - 30 - 31 < 31) : 1 + 1 + 1 + 1 + 1 + 1 + 1 + 1 = gM n ∧ gyd n - 31 - 29 - 31 - 30 - 31 - 30 - 31 + 1 = gD n := by
  have g := gyd_in n
  have h := mon_at (m := 8) (c := 213) (s := 31) hl (by decide) (by decide) (by decide) (by omega) (by omega)
  omega
theorem lg_t9 {n : Int} (hl : gl (gY n) = true) (h0 : ¬ gyd n - 31 - 29 - 31 - 30 - 31 - 30 - 31 < 31) (h1 : gyd n - 31 - 29 - 31 - 30 - 31 - 30 - 31 - 31 < 30) : 1 + 1 + 1 + 1 + 1 + 1 + 1 + 1 + 1 = gM n ∧ gyd n - 31 - 29 - 31 - 30 - 31 - 30 - 31 - 31 + 1 = gD n := by
  have g := gyd_in n
  have h := mon_at (m := 9) (c := 244) (s := 30) hl (by decide) (by decide) (by decide) (by omega) (by omega)
  omega
theorem lg_t10 {n : Int} (hl : gl (gY n) = true) (h0 : ¬ gyd n - 31 - 29 - 31 - 30 - 31 - 30 - 31 - 31 < 30) (h1 : gyd n - 31 - 29 - 31 - 30 - 31 - 30 - 31 - 31 - 30 < 31) : 1 + 1 + 1 + 1 + 1 + 1 + 1 + 1 + 1 + 1 = gM n ∧ gyd n - 31 - 29 - 31 - 30 - 31 - 30 - 31 - 31 - 30 + 1 = gD n := by
  have g := gyd_in n
  have h := mon_at (m := 10) (c := 274) (s := 31) hl (by decide) (by decide) (by decide) (by omega) (by omega)
  omega
theorem lg_t11 {n : Int} (hl : gl (gY n) = true) (h0 : ¬ gyd n - 31 - 29 - 31 - 30 - 31 - 30 - 31 - 31 - 30 < 31) (h1 : gyd n - 31 - 29 - 31 - 30 - 31 - 30 - 31 - 31 - 30 - 31 < 30) : 1 + 1 + 1 + 1 + 1 + 1 + 1 + 1 + 1 + 1 + 1 = gM n ∧ gyd n - 31 - 29 - 31 - 30 - 31 - 30 - 31 - 31 - 30 - 31 + 1 = gD n := by
  have g := gyd_in n
  have h := mon_at (m := 11) (c := 305) (s := 30) hl (by decide) (by decide) (by decide) (by omega) (by omega)
  omega
theorem lg_t12 {n : Int} (hl : gl (gY n) = true) (h0 : ¬ gyd n - 31 - 29 - 31 - 30 - 31 - 30 - 31 - 31 - 30 - 31 < 30) (h1 : gyd n - 31 - 29 - 31 - 30 - 31 - 30 - 31 - 31 - 30 - 31 - 30 < 31) : 1 + 1 + 1 + 1 + 1 + 1 + 1 + 1 + 1 + 1 + 1 + 1 = gM n ∧ gyd n - 31 - 29 - 31 - 30 - 31 - 30 - 31 - 31 - 30 - 31 - 30 + 1 = gD n := by
  have g := gyd_in n
  have h := mon_at (m := 12) (c := 335) (s := 31) hl (by decide) (by decide) (by decide) (by omega) (by omega)
  omega
theorem lg_f1 {n : Int} (hl : gl (gY n) = false) (h1 : gyd n < 31) : 1 = gM n ∧ gyd n + 1 = gD n := by
  have g := gyd_in n
  have h := mon_at (m := 1) (c := 0) (s := 31) hl (by decide) (by decide) (by decide) (by omega) (by omega)
  omega
theorem lg_f2 {n : Int} (hl : gl (gY n) = false) (h0 : ¬ gyd n < 31) (h1 : gyd n - 31 < 28) : 1 + 1 = gM n ∧ gyd n - 31 + 1 = gD n := by
  have g := gyd_in n
  have h := mon_at (m := 2) (c := 31) (s := 28) hl (by decide) (by decide) (by decide) (by omega) (by omega)
  omega
theorem lg_f3 {n : Int} (hl : gl (gY n) = false) (h0 : ¬ gyd n - 31 < 28) (h1 : gyd n - 31 - 28 < 31) : 1 + 1 + 1 = gM n ∧ gyd n - 31 - 28 + 1 = gD n := by
  have g := gyd_in n
  have h := mon_at (m := 3) (c := 59) (s := 31) hl (by decide) (by decide) (by decide) (by omega) (by omega)
  omega
theorem lg_f4 {n : Int} (hl : gl (gY n) = false) (h0 : ¬ gyd n - 31 - 28 < 31) (h1 : gyd n - 31 - 28 - 31 < 30) : 1 + 1 + 1 + 1 = gM n ∧ gyd n - 31 - 28 - 31 + 1 = gD n := by
  have g := gyd_in n
  have h := mon_at (m := 4) (c := 90) (s := 30) hl (by decide) (by decide) (by decide) (by omega) (by omega)
  omega
theorem lg_f5 {n : Int} (hl : gl (gY n) = false) (h0 : ¬ gyd n - 31 - 28 - 31 < 30) (h1 : gyd n - 31 - 28 - 31 - 30 < 31) : 1 + 1 + 1 + 1 + 1 = gM n ∧ gyd n - 31 - 28 - 31 - 30 + 1 = gD n := by
  have g := gyd_in n
  have h := mon_at (m := 5) (c := 120) (s := 31) hl (by decide) (by decide) (by decide) (by omega) (by omega)
  omega
theorem lg_f6 {n : Int} (hl : gl (gY n) = false) (h0 : ¬ gyd n - 31 - 28 - 31 - 30 < 31) (h1 : gyd n - 31 - 28 - 31 - 30 - 31 < 30) : 1 + 1 + 1 + 1 + 1 + 1 = gM n ∧ gyd n - 31 - 28 - 31 - 30 - 31 + 1 = gD n := by
  have g := gyd_in n
  have h := mon_at (m := 6) (c := 151) (s := 30) hl (by decide) (by decide) (by decide) (by omega) (by omega)
  omega
theorem lg_f7 {n : Int} (hl : gl (gY n) = false) (h0 : ¬ gyd n - 31 - 28 - 31 - 30 - 31 < 30) (h1 : gyd n - 31 - 28 - 31 - 30 - 31 - 30 < 31) : 1 + 1 + 1 + 1 + 1 + 1 + 1 = gM n ∧ gyd n - 31 - 28 - 31 - 30 - 31 - 30 + 1 = gD n := by
  have g := gyd_in n
  have h := mon_at (m := 7) (c := 181) (s := 31) hl (by decide) (by decide) (by decide) (by omega) (by omega)
  omega
theorem lg_f8 {n : Int} (hl : gl (gY n) = false) (h0 : ¬ gyd n - 31 - 28 - 31 - 30 - 31 - 30 < 31) (h1 : gyd n - 31 - 28 - 31 - 30 - 31 - 30 - 31 < 31) : 1 + 1 + 1 + 1 + 1 + 1 + 1 + 1 = gM n ∧ gyd n - 31 - 28 - 31 - 30 - 31 - 30 - 31 + 1 = gD n := by
  have g := gyd_in n
  have h := mon_at (m := 8) (c := 212) (s := 31) hl (by decide) (by decide) (by decide) (by omega) (by omega)
  omega
theorem lg_f9 {n : Int} (hl : gl (gY n) = false) (h0 : ¬ gyd n - 31 - 28 - 31 - 30 - 31 - 30 - 31 < 31) (h1 : gyd n - 31 - 28 - 31 - 30 - 31 - 30 - 31 - 31 < 30) : 1 + 1 + 1 + 1 + 1 + 1 + 1 + 1 + 1 = gM n ∧ gyd n - 31 - 28 - 31 - 30 - 31 - 30 - 31 - 31 + 1 = gD n := by
  have g := gyd_in n
  have h := mon_at (m := 9) (c := 243) (s := 30) hl (by decide) (by decide) (by decide) (by omega) (by omega)
  omega
theorem lg_f10 {n : Int} (hl : gl (gY n) = false) (h0 : ¬ gyd n - 31 - 28 - 31 - 30 - 31 - 30 - 31 - 31 < 30) (h1 : gyd n - 31 - 28 - 31 - 30 - 31 - 30 - 31 - 31 - 30 < 31) : 1 + 1 + 1 + 1 + 1 + 1 + 1 + 1 + 1 + 1 = gM n ∧ gyd n - 31 - 28 - 31 - 30 - 31 - 30 - 31 - 31 - 30 + 1 = gD n := by
  have g := gyd_in n
  have h := mon_at (m := 10) (c := 273) (s := 31) hl (by decide) (by decide) (by decide) (by omega) (by omega)
  omega
theorem lg_f11 {n : Int} (hl : gl (gY n) = false) (h0 : ¬ gyd n - 31 - 28 - 31 - 30 - 31 - 30 - 31 - 31 - 30 < 31) (h1 : gyd n - 31 - 28 - 31 - 30 - 31 - 30 - 31 - 31 - 30 - 31 < 30) : 1 + 1 + 1 + 1 + 1 + 1 + 1 + 1 + 1 + 1 + 1 = gM n ∧ gyd n - 31 - 28 - 31 - 30 - 31 - 30 - 31 - 31 - 30 - 31 + 1 = gD n := by
  have g := gyd_in n
  have h := mon_at (m := 11) (c := 304) (s := 30) hl (by decide) (by decide) (by decide) (by omega) (by omega)
  omega
theorem lg_f12 {n : Int} (hl : gl (gY n) = false) (h0 : ¬ gyd n - 31 - 28 - 31 - 30 - 31 - 30 - 31 - 31 - 30 - 31 < 30) (h1 : gyd n - 31 - 28 - 31 - 30 - 31 - 30 - 31 - 31 - 30 - 31 - 30 < 31) : 1 + 1 + 1 + 1 + 1 + 1 + 1 + 1 + 1 + 1 + 1 + 1 = gM n ∧ gyd n - 31 - 28 - 31 - 30 - 31 - 30 - 31 - 31 - 30 - 31 - 30 + 1 = gD n := by
  have g := gyd_in n
  have h := mon_at (m := 12) (c := 334) (s := 31) hl (by decide) (by decide) (by decide) (by omega) (by omega)
  omega
end Mine
namespace Mine
open PySem PySem.Float64 PySem.W PyProof.Rows
def mOK (y m : Int) : Prop := 1 ≤ m ∧ m ≤ 13 ∧ (m = 13 → lng y = true)
/-- the Hebrew date a, b, c is that of the day n -/
def HD (a b c n : Int) : Prop := mOK a b ∧ 1 ≤ c ∧ c ≤ ml a b ∧ n = lny a + off a b + c - 1
structure Offs (y : Int) : Prop where
  o7 : off y 7 = 0
  o8 : off y 8 = off y 7 + ml y 7
  o9 : off y 9 = off y 8 + ml y 8
  o10 : off y 10 = off y 9 + ml y 9
  o11 : off y 11 = off y 10 + ml y 10
  o12 : off y 12 = off y 11 + ml y 11
  o13 : off y 13 = off y 12 + ml y 12
  o1 : (lng y = true ∧ off y 1 = off y 13 + ml y 13) ∨ (lng y = false ∧ off y 1 = off y 12 + ml y 12)
  o2 : off y 2 = off y 1 + ml y 1
  o3 : off y 3 = off y 2 + ml y 2
  o4 : off y 4 = off y 3 + ml y 3
  o5 : off y 5 = off y 4 + ml y 4
  o6 : off y 6 = off y 5 + ml y 5
  oe : lny (y + 1) = lny y + off y 6 + ml y 6
theorem offs (y : Int) : Offs y := by
  have hs := sums y
  have hy := ylen_lny y
  have h7 := off_hi y 0 7 rfl
  have h8 := off_hi y 1 8 rfl
  have h9 := off_hi y 2 9 rfl
  have h10 := off_hi y 3 10 rfl
  have h11 := off_hi y 4 11 rfl
  have h12 := off_hi y 5 12 rfl
  have h13 := off_hi y 6 13 rfl
  have h1 := off_lo y 0 1 rfl (by decide)
  have h2 := off_lo y 1 2 rfl (by decide)
  have h3 := off_lo y 2 3 rfl (by decide)
  have h4 := off_lo y 3 4 rfl (by decide)
  have h5 := off_lo y 4 5 rfl (by decide)
  have h6 := off_lo y 5 6 rfl (by decide)
  rw [S7_0] at h7
  rw [S7_1] at h8
  rw [S7_2] at h9
  rw [S7_3] at h10
  rw [S7_4] at h11
  rw [S7_5] at h12
  rw [S7_6] at h13
  rw [S1_0] at h1
  rw [S1_1] at h2
  rw [S1_2] at h3
  rw [S1_3] at h4
  rw [S1_4] at h5
  rw [S1_5] at h6
  rw [S1_6] at hs
  cases hl : lng y
  · rw [hl, if_neg (by decide), S7_6] at hs h1 h2 h3 h4 h5 h6
    exact ⟨by omega, by omega, by omega, by omega, by omega, by omega, by omega, .inr ⟨hl, by omega⟩, by omega, by omega, by omega, by omega, by omega, by omega⟩
  · rw [hl, if_pos rfl, S7_7] at hs h1 h2 h3 h4 h5 h6
    exact ⟨by omega, by omega, by omega, by omega, by omega, by omega, by omega, .inl ⟨hl, by omega⟩, by omega, by omega, by omega, by omega, by omega, by omega⟩
theorem m13 {m : Int} (h : 1 ≤ m ∧ m ≤ 13) : m = 1 ∨ m = 2 ∨ m = 3 ∨ m = 4 ∨ m = 5 ∨ m = 6 ∨ m = 7 ∨ m = 8 ∨ m = 9 ∨ m = 10 ∨ m = 11 ∨ m = 12 ∨ m = 13 := by omega
/-- the months in their order -/
def ord (m : Int) : Int := if 7 ≤ m then m - 7 else m + 6
/-- the days ahead of a month, as far as its place tells -/
structure Mls (y : Int) : Prop where
  l1 : 29 ≤ ml y 1 ∧ ml y 1 ≤ 30
  l2 : 29 ≤ ml y 2 ∧ ml y 2 ≤ 30
  l3 : 29 ≤ ml y 3 ∧ ml y 3 ≤ 30
  l4 : 29 ≤ ml y 4 ∧ ml y 4 ≤ 30
  l5 : 29 ≤ ml y 5 ∧ ml y 5 ≤ 30
  l6 : 29 ≤ ml y 6 ∧ ml y 6 ≤ 30
  l7 : 29 ≤ ml y 7 ∧ ml y 7 ≤ 30
  l8 : 29 ≤ ml y 8 ∧ ml y 8 ≤ 30
  l9 : 29 ≤ ml y 9 ∧ ml y 9 ≤ 30
  l10 : 29 ≤ ml y 10 ∧ ml y 10 ≤ 30
  l11 : 29 ≤ ml y 11 ∧ ml y 11 ≤ 30
  l12 : 29 ≤ ml y 12 ∧ ml y 12 ≤ 30
  l13 : 29 ≤ ml y 13 ∧ ml y 13 ≤ 30
theorem mls (y : Int) : Mls y := ⟨ml_bnd y 1, ml_bnd y 2, ml_bnd y 3, ml_bnd y 4, ml_bnd y 5, ml_bnd y 6, ml_bnd y 7, ml_bnd y 8, ml_bnd y 9, ml_bnd y 10, ml_bnd y 11, ml_bnd y 12, ml_bnd y 13⟩
/-- the month behind a month -/
theorem off_step {y m : Int} (h : (7 ≤ m ∧ m < mL y) ∨ (1 ≤ m ∧ m < 6)) : off y (m + 1) = off y m + ml y m := by
  have hl := mL_or y
  obtain ⟨o7, o8, o9, o10, o11, o12, o13, -, o2, o3, o4, o5, o6, -⟩ := offs y
  rcases m13 (m := m) (by omega) with rfl | rfl | rfl | rfl | rfl | rfl | rfl | rfl | rfl | rfl | rfl | rfl | rfl
  · exact o2
  · exact o3
  · exact o4
  · exact o5
  · exact o6
  · exfalso; omega
  · exact o8
  · exact o9
  · exact o10
  · exact o11
  · exact o12
  · exact o13
  · exfalso; omega
theorem off_one (y : Int) : off y 1 = off y (mL y) + ml y (mL y) := by
  have hl := mL_or y
  obtain ⟨-, -, -, -, -, -, -, o1, -, -, -, -, -, -⟩ := offs y
  rcases hl with ⟨a, -, b⟩ | ⟨a, -, b⟩ <;> rw [b] <;> rw [a] at o1
  · rcases o1 with o | o
    · exact o.2
    · cases o.1
  · rcases o1 with o | o
    · cases o.1
    · exact o.2
theorem off_in {y m : Int} (h : mOK y m) : 0 ≤ off y m ∧ off y m + ml y m ≤ lny (y + 1) - lny y ∧ (7 ≤ m → off y m + ml y m ≤ off y 1) ∧ (m ≤ 6 → off y 1 ≤ off y m) ∧ off y m ≤ 500 := by
  obtain ⟨h1, h2, h3⟩ := h
  obtain ⟨o7, o8, o9, o10, o11, o12, o13, o1, o2, o3, o4, o5, o6, oe⟩ := offs y
  obtain ⟨l1, l2, l3, l4, l5, l6, l7, l8, l9, l10, l11, l12, l13⟩ := mls y
  rcases m13 ⟨h1, h2⟩ with rfl | rfl | rfl | rfl | rfl | rfl | rfl | rfl | rfl | rfl | rfl | rfl | rfl
  all_goals (clear h1 h2)
  all_goals (rcases o1 with ⟨a, o1⟩ | ⟨a, o1⟩)
  all_goals (first | (exfalso; have := h3 rfl; rw [a] at this; cases this; done) | (clear h3 a; omega))
theorem off_lt {y m k : Int} (h : mOK y m) (g : mOK y k) (hlt : ord m < ord k) : off y m + ml y m ≤ off y k := by
  obtain ⟨h1, h2, h3⟩ := h
  obtain ⟨g1, g2, g3⟩ := g
  have hl := mL_or y
  -- from place to place
  have up : ∀ n : Nat, ∀ a : Int, ((7 ≤ a ∧ a + n < mL y) ∨ (1 ≤ a ∧ a + n < 6)) → off y a + ml y a ≤ off y (a + n + 1) := by
    intro n
    induction n with
    | zero =>
      intro a ha
      rw [show a + ((0 : Nat) : Int) + 1 = a + 1 by omega, off_step (by omega)]
      omega
    | succ n ih =>
      intro a ha
      have e1 := ih a (by omega)
      have e2 := off_step (y := y) (m := a + n + 1) (by omega)
      have e3 := ml_bnd y (a + n + 1)
      rw [show a + ((n + 1 : Nat) : Int) + 1 = a + n + 1 + 1 by omega]
      omega
  have hk : k = 13 → lng y = true := g3
  have hm13 : m = 13 → mL y = 13 := fun e => by rcases hl with ⟨a, _, b⟩ | ⟨a, _, b⟩; exact b; rw [h3 e] at a; cases a
  have hk13 : k = 13 → mL y = 13 := fun e => by rcases hl with ⟨a, _, b⟩ | ⟨a, _, b⟩; exact b; rw [g3 e] at a; cases a
  have hle : mL y = 12 ∨ mL y = 13 := by omega
  by_cases c1 : 7 ≤ m
  · by_cases c2 : 7 ≤ k
    · unfold ord at hlt
      rw [if_pos c1, if_pos c2] at hlt
      have := up (k - m - 1).toNat m (.inl (by omega))
      rw [show m + ((k - m - 1).toNat : Int) + 1 = k by omega] at this
      exact this
    · have e1 := (off_in (y := y) (m := m) ⟨h1, h2, h3⟩).2.2.1 c1
      have e2 := (off_in (y := y) (m := k) ⟨g1, g2, g3⟩).2.2.2.1 (by omega)
      omega
  · unfold ord at hlt
    rw [if_neg c1] at hlt
    have c2 : ¬ 7 ≤ k := by
      intro c2
      rw [if_pos c2] at hlt
      omega
    rw [if_neg c2] at hlt
    have := up (k - m - 1).toNat m (.inr (by omega))
    rw [show m + ((k - m - 1).toNat : Int) + 1 = k by omega] at this
    exact this
theorem lny_up (y : Int) : lny y + 353 ≤ lny (y + 1) ∧ lny (y + 1) ≤ lny y + 385 := by
  have h := ylen_in y
  rw [ylen_lny] at h
  omega
theorem lny_mono {a b : Int} (h : a ≤ b) : lny a ≤ lny b := by
  have k : ∀ n : Nat, lny a ≤ lny (a + n) := by
    intro n
    induction n with
    | zero => rw [show a + ((0 : Nat) : Int) = a by omega]; omega
    | succ n ih =>
      have := lny_up (a + n)
      rw [show a + ((n + 1 : Nat) : Int) = a + n + 1 by omega]
      omega
  have := k (b - a).toNat
  rw [show a + ((b - a).toNat : Int) = b by omega] at this
  exact this
theorem HD_in {a b c n : Int} (h : HD a b c n) : lny a ≤ n ∧ n < lny (a + 1) := by
  obtain ⟨h1, h2, h3, h4⟩ := h
  have := off_in h1
  omega
theorem HD_one {a b c a' b' c' n : Int} (h : HD a b c n) (g : HD a' b' c' n) : a' = a ∧ b' = b ∧ c' = c := by
  have h1 := HD_in h
  have g1 := HD_in g
  have e : a' = a := by
    rcases Int.lt_trichotomy a' a with k | k | k
    · have := lny_mono (a := a' + 1) (b := a) (by omega); omega
    · exact k
    · have := lny_mono (a := a + 1) (b := a') (by omega); omega
  subst e
  obtain ⟨p1, p2, p3, p4⟩ := h
  obtain ⟨q1, q2, q3, q4⟩ := g
  have e : b' = b := by
    rcases Int.lt_trichotomy (ord b') (ord b) with k | k | k
    · have := off_lt q1 p1 k; omega
    · obtain ⟨i1, i2, -⟩ := p1
      obtain ⟨j1, j2, -⟩ := q1
      unfold ord at k
      by_cases c1 : 7 ≤ b' <;> by_cases c2 : 7 ≤ b
      · rw [if_pos c1, if_pos c2] at k; omega
      · rw [if_pos c1, if_neg c2] at k; omega
      · rw [if_neg c1, if_pos c2] at k; omega
      · rw [if_neg c1, if_neg c2] at k; omega
    · have := off_lt p1 q1 k; omega
  subst e
  omega
theorem HD_next (y : Int) : HD (y + 1) 7 1 (lny (y + 1)) := by
  have := (offs (y + 1)).o7
  have := ml_bnd (y + 1) 7
  exact ⟨⟨by omega, by omega, fun h => nomatch h⟩, by omega, by omega, by omega⟩
theorem zZ_in (d : Int) : d ≤ zZ d ∧ zZ d ≤ d + 1 := by unfold zZ; split <;> omega
theorem ldF_in (y d p : Int) : d ≤ ldF y d p ∧ ldF y d p ≤ d + 1 := by unfold ldF; (repeat' split) <;> omega
theorem lny_in (y : Int) : 347997 + xX y / 25920 ≤ lny y ∧ lny y ≤ 347999 + xX y / 25920 := by
  have e : lny y = 347997 + zZ (ldF y (xX y / 25920) (xX y % 25920)) := by
    unfold lny lnyF zZ xX
    rw [mo_mth]
  have h1 := zZ_in (ldF y (xX y / 25920) (xX y % 25920))
  have h2 := ldF_in y (xX y / 25920) (xX y % 25920)
  omega
theorem lny_big {y : Int} (h : 1 ≤ y ∧ y ≤ 100000003) : 347997 ≤ lny y ∧ lny y ≤ 36530000000 := by
  have h1 := lny_in y
  have h2 : xX y = 31524 + 765433 * mth y := rfl
  have h3 : mth y = (235 * y - 234) / 19 := rfl
  omega
/-- the count of the program is not beyond the year -/
theorem count_le {y n : Int} (h : 1 ≤ y) (h1 : n < lny (y + 1)) : (n - 347996) * 98496 / 35975351 ≤ y := by
  have h2 := lny_in (y + 1)
  have h3 : xX (y + 1) = 31524 + 765433 * mth (y + 1) := rfl
  have h4 : mth (y + 1) = (235 * (y + 1) - 234) / 19 := rfl
  omega
theorem ny1 : ny 1 = 347996 := by decide +kernel
theorem lny1 : lny 1 = 347998 := by rw [lny_ny, ny1]; rfl
end Mine
namespace Mine
open PySem PySem.Float64 PySem.W PyProof.Rows
theorem HD_le {a b c n i : Int} (h : HD a b c n) (g : lny i ≤ n) : i ≤ a := by
  have h1 := HD_in h
  rcases Int.lt_or_le a i with k | k
  · have := lny_mono (a := a + 1) (b := i) (by omega); omega
  · exact k
theorem HD_gt {a b c n i : Int} (h : HD a b c n) (g : n < lny i) : a < i := by
  have h1 := HD_in h
  rcases Int.lt_or_le a i with k | k
  · exact k
  · have := lny_mono (a := i) (b := a) (by omega); omega
theorem HD_big {a b c n : Int} (h : HD a b c n) (ha : 1 ≤ a ∧ a ≤ 100000002) : 347997 ≤ n ∧ n ≤ 36530000000 := by
  have h1 := HD_in h
  have h2 := lny_big (y := a) (by omega)
  have h3 := lny_big (y := a + 1) (by omega)
  omega
theorem HD_cnt {a b c n : Int} (h : HD a b c n) (ha : 1 ≤ a ∧ a ≤ 100000002) : 0 ≤ 98496 * (n - 347996) / 35975351 ∧ 98496 * (n - 347996) / 35975351 ≤ a := by
  have h1 := HD_in h
  have h2 := HD_big h ha
  have h3 := count_le ha.1 h1.2
  rw [Int.mul_comm] at h3
  omega
/-- the first loop's word -/
def P1 (a i y : Int) : Prop := y = i - 1 ∧ 0 ≤ i ∧ i ≤ a + 1
theorem P1_next {a b c n i y : Int} (h : HD a b c n) (p : P1 a i y) (g : lny i ≤ n) : P1 a (i + 1) (y + 1) ∧ (a + 1 - (i + 1)).toNat < (a + 1 - i).toNat := by
  have := HD_le h g
  obtain ⟨p1, p2, p3⟩ := p
  refine ⟨⟨by omega, by omega, by omega⟩, by omega⟩
theorem P1_end {a b c n i y : Int} (h : HD a b c n) (p : P1 a i y) (g : ¬ lny i ≤ n) : y = a := by
  have := HD_gt h (i := i) (by omega)
  obtain ⟨p1, p2, p3⟩ := p
  omega
/-- the second loop's word -/
def P2 (a n i m : Int) : Prop := m = i ∧ 1 ≤ i ∧ i ≤ 13 ∧ lny a + off a i ≤ n ∧ ((7 ≤ i ∧ i ≤ mL a ∧ n < lny a + off a 1) ∨ (i ≤ 6 ∧ n < lny (a + 1)))
theorem P2_7 {a b c n : Int} (h : HD a b c n) (g : n < lny a + off a 1) : P2 a n 7 7 := by
  have h1 := HD_in h
  have h2 := (offs a).o7
  have h3 := mL_or a
  exact ⟨rfl, by omega, by omega, by omega, .inl ⟨by omega, by omega, g⟩⟩
theorem P2_1 {a b c n : Int} (h : HD a b c n) (g : ¬ n < lny a + off a 1) : P2 a n 1 1 := by
  have h1 := HD_in h
  exact ⟨rfl, by omega, by omega, by omega, .inr ⟨by omega, h1.2⟩⟩
theorem P2_next {a n i m : Int} (p : P2 a n i m) (g : lny a + off a i + ml a i ≤ n) : P2 a n (i + 1) (m + 1) ∧ (14 - (i + 1)).toNat < (14 - i).toNat := by
  obtain ⟨p1, p2, p3, p4, p5⟩ := p
  have h3 := mL_or a
  have h1 := off_one a
  have h6 := (offs a).oe
  have s1 : (7 ≤ i ∧ i < mL a) ∨ (1 ≤ i ∧ i < 6) := by
    rcases p5 with ⟨q1, q2, q3⟩ | ⟨q1, q3⟩
    · rcases Int.lt_or_le i (mL a) with k | k
      · exact .inl ⟨q1, k⟩
      · have e : i = mL a := by omega
        subst e; omega
    · rcases Int.lt_or_le i 6 with k | k
      · exact .inr ⟨p2, k⟩
      · have e : i = 6 := by omega
        subst e; omega
  have s2 := off_step s1
  refine ⟨⟨by omega, by omega, by omega, by omega, ?_⟩, by omega⟩
  rcases p5 with ⟨q1, q2, q3⟩ | ⟨q1, q3⟩
  · exact .inl ⟨by omega, by omega, q3⟩
  · exact .inr ⟨by omega, q3⟩
theorem P2_end {a b c n i m : Int} (h : HD a b c n) (p : P2 a n i m) (g : ¬ lny a + off a i + ml a i ≤ n) : m = b ∧ n - (lny a + off a m) + 1 = c := by
  obtain ⟨p1, p2, p3, p4, p5⟩ := p
  subst p1
  have h3 := mL_or a
  have k : HD a m (n - (lny a + off a m) + 1) n := ⟨⟨p2, p3, fun e => by rcases h3 with ⟨x, _, y⟩ | ⟨x, _, y⟩; exact x; omega⟩, by omega, by omega, by omega⟩
  have := HD_one h k
  exact ⟨this.2.1, this.2.2⟩
theorem P2_in {a n i m : Int} (p : P2 a n i m) : m = i ∧ 1 ≤ i ∧ i ≤ 13 ∧ lny a + off a i ≤ n := ⟨p.1, p.2.1, p.2.2.1, p.2.2.2.1⟩
theorem P1_in {a i y : Int} (p : P1 a i y) : 0 ≤ i ∧ i ≤ a + 1 := ⟨p.2.1, p.2.2⟩
end Mine
namespace Mine
open PySem PySem.Float64 PySem.W PyProof.Rows
/-- the word of the loop of _law_date: c days are left ahead of the months of the list -/
def Pd (y n c : Int) (ps : List (Int × Int)) : Prop := ∃ st, c = n - st ∧ Pc y st ps ∧ 0 ≤ c ∧ ∀ p ∈ ps, p.1 = 13 → lng y = true
theorem rows_13 (y : Int) : ∀ p ∈ rowsOf y, p.1 = 13 → lng y = true := by
  unfold rowsOf
  cases lng y
  · intro p hp h
    simp at hp
    rcases hp with rfl | rfl | rfl | rfl | rfl | rfl | rfl | rfl | rfl | rfl | rfl | rfl <;> simp at h
  · intro p hp h; rfl
theorem Pd_start {y n : Int} (h : lny y ≤ n) : Pd y n (n - lny y) (rowsOf y) := ⟨lny y, rfl, Pc_start y, by omega, rows_13 y⟩
theorem Pd_ret {y n c a b : Int} {r : List (Int × Int)} (h : Pd y n c ((a, b) :: r)) (g : c < b) : HD y a (c + 1) n := by
  obtain ⟨st, e, ⟨p1, p2, p3, p4, -⟩, c0, h13⟩ := h
  exact ⟨⟨p1, p2, h13 (a, b) (.head _)⟩, by omega, by omega, by omega⟩
theorem Pd_next {y n c a b : Int} {r : List (Int × Int)} (h : Pd y n c ((a, b) :: r)) (g : ¬ c < b) : Pd y n (c - b) r := by
  obtain ⟨st, e, ⟨p1, p2, p3, p4, p5⟩, c0, h13⟩ := h
  exact ⟨st + b, by omega, p5, by omega, fun p hp => h13 p (.tail _ hp)⟩
theorem Pd_end {y n c : Int} (h : Pd y n c []) (g : n ≤ lny (y + 1)) : HD (y + 1) 7 (c + 1) n := by
  obtain ⟨st, e, p, c0, -⟩ := h
  have p : st = lny (y + 1) := p
  have e1 : c = 0 := by omega
  have e2 : n = lny (y + 1) := by omega
  subst e1; subst e2
  exact HD_next y
end Mine
namespace Mine
open PySem PySem.Float64 PySem.W PyProof.Rows PySem.Calls
open LCp LCg
/-- a call of the def at f comes back with a new list of new pairs of ints, the list as it stands -/
def GivesRow2 (prog : Program) (w : World) (K : Frag) (p : Program) (loose : List Str) (mean : ExcName → Option Value) (mg mb : Str → Option Value) (lv : Nat) (f : Addr) (vs : List Value) (ps : List (Int × Int)) : Prop :=
  ∀ (dp un : Nat) (gd : Option (List Code)) (cn : Str) (cs : Scope) (a : Addr) (ccd : Value) (cl : List (Str × Addr)) (outer : List Env) (A₀ : Around) (base h₀ : Heap) (L : Addr) (m : Str → Option Value) (s : Shared) (Q E : Value → Shared → Prop),
    Below A₀ base outer h₀ → Fr h₀ L s.heap m → K.In h₀ → Top p loose mean mg mb h₀ → cs.kind = .function →
    dp + lv < recursionLimit → un + 8 * lv < cLine →
    (∀ (ax : Addr) (ws : List Value) (n : Nat) (tl : List (Addr × Obj)) (h' : Heap) (tk' : Nat), (∀ b o, s.heap.get? b = some o → h'.get? b = some o) → News h₀ L h' tl → (ax, ({ cls := .type "list", data := .seq ws.toArray n } : Obj)) ∈ tl → Rows tl ws ps → Q (.ref ax) { s with heap := h', toks := tk' }) →
    wpAny (model prog w) (ktrTop dp un gd cn cs L a ccd cl outer) (call (.ref f) vs) Q E s
section
variable {prog : Program} {w : World} {K : Frag} {p : Program} {loose : List Str} {mean : ExcName → Option Value} {mg mb : Str → Option Value} {lv : Nat} {f : Addr} {vs : List Value} {ps : List (Int × Int)}
  {dp un : Nat} {gd : Option (List Code)} {cn : Str} {cs : Scope} {a : Addr} {ccd : Value} {cl : List (Str × Addr)} {outer : List Env} {A₀ : Around} {base h₀ : Heap} {L : Addr} {m : Str → Option Value} {news : List (Addr × Obj)} {s : Shared} {Q E : Value → Shared → Prop}
theorem GivesRow2.toRow (C : GivesRow2 prog w K p loose mean mg mb lv f vs ps) : GivesRow prog w K p loose mean mg mb lv f vs ps :=
  fun dp un gd cn cs a ccd cl outer A₀ base h₀ L m s Q E B F X T hk hr hu hret => C dp un gd cn cs a ccd cl outer A₀ base h₀ L m s Q E B F X T hk hr hu
    fun ax ws n tl h' tk' st N hm hr => hret ax _ ws n tl h' tk' st N hm rfl rfl hr
theorem GivesRow2.use (C : GivesRow2 prog w K p loose mean mg mb lv f vs ps) (B : Below A₀ base outer h₀) (F : Fr h₀ L s.heap m) (X : K.In h₀) (N : News h₀ L s.heap news) (T : Top p loose mean mg mb h₀) (hk : cs.kind = .function)
    (hd : dp + lv < recursionLimit) (hu : un + 8 * lv < cLine)
    (ret : ∀ (ax : Addr) (ws : List Value) (n : Nat) (tl : List (Addr × Obj)) (h' : Heap) (tk' : Nat), Fr h₀ L h' m → News h₀ L h' ((ax, ({ cls := .type "list", data := .seq ws.toArray n } : Obj)) :: (tl ++ news)) → Rows (tl ++ news) ws ps → Q (.ref ax) { s with heap := h', toks := tk' }) :
    wpAny (model prog w) (ktrTop dp un gd cn cs L a ccd cl outer) (call (.ref f) vs) Q E s :=
  C _ _ _ _ _ _ _ _ _ _ _ _ _ _ _ _ _ B F X T hk hd hu fun ax ws n tl h' tk' st N' hm hr =>
    ret ax ws n tl h' tk' (F.keeps st) (fun p hp => (List.mem_cons.mp hp).elim (fun e => N' p (by rw [e]; exact hm)) fun hp => (List.mem_append.mp hp).elim (N' p) (News.grown N st p)) (hr.mono fun _ h => List.mem_append_left _ h)
theorem row_end2 {g h' : Heap} {L' : Addr} {m' : Str → Option Value} {tk' : Nat} {ax : Addr} {ws : List Value} {n : Nat} {tl : List (Addr × Obj)}
    (hret : ∀ (ax : Addr) (ws : List Value) (n : Nat) (tl : List (Addr × Obj)) (h' : Heap) (tk' : Nat), (∀ b o, s.heap.get? b = some o → h'.get? b = some o) → News h₀ L h' tl → (ax, ({ cls := .type "list", data := .seq ws.toArray n } : Obj)) ∈ tl → Rows tl ws ps → Q (.ref ax) { s with heap := h', toks := tk' })
    (G : GSub s.heap g []) (F : Fr g L' h' m') (N : News h₀ L h' tl) (hm : (ax, ({ cls := .type "list", data := .seq ws.toArray n } : Obj)) ∈ tl) (hr : Rows tl ws ps) : Q (.ref ax) { s with heap := h', toks := tk' } :=
  hret ax ws n tl h' tk' (fun b o e => F.keep b o (G b o e (nomatch ·))) N hm hr
end
theorem Rows.len {news : List (Addr × Obj)} {vs : List Value} {ps : List (Int × Int)} (h : Rows news vs ps) : vs.length = ps.length := by
  induction h with
  | nil => rfl
  | cons _ _ ih => rw [List.length_cons, List.length_cons, ih]
theorem Rows.take {news : List (Addr × Obj)} {vs : List Value} {ps : List (Int × Int)} (h : Rows news vs ps) : ∀ k, Rows news (vs.take k) (ps.take k) := by
  induction h with
  | nil => intro k; rw [List.take_nil, List.take_nil]; exact .nil
  | cons hm _ ih =>
    intro k
    cases k with
    | zero => exact .nil
    | succ k => rw [List.take_succ_cons, List.take_succ_cons]; exact .cons hm (ih k)
theorem pick_upto (vs : List Value) {y : Int} (h : 0 ≤ y) : (slicePick vs.toArray none (some y) none).toList = vs.take y.toNat := by
  have e : sliceBounds none (some y) none vs.toArray.size = (((0 : Nat) : Int), ((min y.toNat vs.toArray.size : Nat) : Int), 1) := by
    simp only [sliceBounds, Option.getD_none, show (1 : Int) > 0 by decide, if_true, if_neg (show ¬ (y < 0) by omega)]
    congr 1
    congr 1
    omega
  rw [kmk_pick_nat _ e]
  show (vs.drop 0).take (min y.toNat vs.toArray.size - 0) = _
  rw [List.drop_zero, Nat.sub_zero, List.size_toArray, kmk_take_min]
section
variable {prog : Program} {w : World} {A : Around} {s : Shared} {h₀ : Heap} {L : Addr} {m : Str → Option Value} {env : Env} {x x₂ : Str} {px : Pos} {scope : Scope} {cl : List (Str × Addr)} {ax : Addr} {its : Array Value} {news : List (Addr × Obj)} {Fin : List Value → List (Addr × Obj) → Prop}
theorem comp_pairs (hd : (x₂ == ("__debug__" : Str)) = false) (h1 : ∀ C, (compEnvC scope cl C env).scope.kind = .function) (h2 : ∀ C, (compEnvC scope cl C env).kindOf x₂ = some .local) (hS : SrcAt h₀ ax its news) :
    ∀ (vs : List Value) (ps : List (Int × Int)) (i : Nat) (ys : List Value) (ns : List Int), its.toList.drop i = vs → Rows news vs ps → IntsAre ys ns → (∀ zs, IntsAre zs (ns ++ ps.map (·.2)) → Fin zs news) →
      CompRestP prog w A h₀ L m env (.Name x₂ px) x x₂ scope cl s (SrcAt h₀ ax its) (fun i v => its[i]? = some v) Fin vs.length i ys news := by
  intro vs
  induction vs with
  | nil =>
    intro ps i ys ns _ hR hI fin
    cases hR
    exact CompRestP.zero (fin ys (by rw [List.map_nil, List.append_nil]; exact hI))
  | cons v r ih =>
    intro ps i ys ns hdr hR hI fin
    cases hR with
    | @cons T t1 t2 nn a b _ ps hT hR =>
      rw [List.length_cons]
      refine CompRestP.succ fun v' hv' => ?_
      have hi : its.toList[i]? = some (.ref T) := by
        have := congrArg (fun l => l[0]?) hdr
        simpa using this
      have e : v' = .ref T := by
        rw [← Array.getElem?_toList, hi] at hv'
        exact (Option.some.inj hv').symm
      have hdr' : its.toList.drop (i + 1) = r := by
        rw [← List.tail_drop, hdr]
        rfl
      refine ⟨T, _, .int a t1, .int b t2, nn, e, hT, rfl, rfl, ?_⟩
      intro I oI C oC D m₂ h tk E' hC hx1 hx2 F N off ne
      refine LCgL.ld_own N (List.mem_cons_of_mem _ (List.mem_cons_self ..)) hC hx2 ?_ (h1 C) (h2 C) hd
      refine LCg.CompEnd.intro F N news (fun p hp => hp) off hS (ih ps (i + 1) _ (ns ++ [b]) hdr' hR (hI.append (.cons b t2 .nil)) fun zs hz => fin zs ?_)
      rw [List.map_cons]
      rw [List.append_assoc] at hz
      exact hz
end
/-! the sums -/
theorem sum_29 : ∀ l : List Int, (∀ z ∈ l, 29 ≤ z) → l ≠ [] → 29 ≤ l.sum
  | [], _, h => absurd rfl h
  | [a], h, _ => by have := h a (.head _); simp; omega
  | a :: b :: r, h, _ => by
    have h1 := h a (.head _)
    have h2 := sum_29 (b :: r) (fun z hz => h z (.tail _ hz)) (by simp)
    rw [List.sum_cons]
    omega
theorem Pc_ml {y : Int} : ∀ {ps : List (Int × Int)} {c : Int}, Pc y c ps → ∀ p ∈ ps, p.2 = ml y p.1
  | [], _, _, p, hp => nomatch hp
  | (a, b) :: r, c, h, p, hp => by
    rcases List.mem_cons.mp hp with rfl | hp
    · exact h.2.2.1
    · exact Pc_ml h.2.2.2.2 p hp
theorem rows_29 (y : Int) : ∀ z ∈ (rowsOf y).map (·.2), 29 ≤ z := by
  intro z hz
  obtain ⟨p, hp, rfl⟩ := List.mem_map.mp hz
  have e := Pc_ml (Pc_start y) p hp
  have := ml_bnd y p.1
  omega
theorem rows_total (y : Int) : ((rowsOf y).map (·.2)).sum = lny (y + 1) - lny y := by
  have hs := sums y
  rw [ylen_lny] at hs
  rw [← hs]
  unfold rowsOf
  cases lng y <;> simp [S7, S1] <;> omega
theorem rows_len (y : Int) : (rowsOf y).length = 12 ∨ (rowsOf y).length = 13 := by
  unfold rowsOf
  cases lng y
  · exact .inl rfl
  · exact .inr rfl
theorem rows_part {y k : Int} (h1 : 1 ≤ k) (h2 : k + 1 ≤ ((rowsOf y).length : Int)) : 0 ≤ (((rowsOf y).take k.toNat).map (·.2)).sum - 1 ∧ (((rowsOf y).take k.toNat).map (·.2)).sum - 1 < lny (y + 1) - lny y := by
  have ht := rows_total y
  have hall := rows_29 y
  have e : (rowsOf y).map (·.2) = ((rowsOf y).take k.toNat).map (·.2) ++ ((rowsOf y).drop k.toNat).map (·.2) := by rw [← List.map_append, List.take_append_drop]
  rw [e, List.sum_append] at ht
  rw [e] at hall
  have a := sum_29 (((rowsOf y).take k.toNat).map (·.2)) (fun z hz => hall z (List.mem_append_left _ hz)) (by
    intro h
    have := congrArg List.length h
    rw [List.length_map, List.length_take, List.length_nil] at this
    omega)
  have b := sum_29 (((rowsOf y).drop k.toNat).map (·.2)) (fun z hz => hall z (List.mem_append_right _ hz)) (by
    intro h
    have := congrArg List.length h
    rw [List.length_map, List.length_drop, List.length_nil] at this
    omega)
  omega
end Mine
namespace Mine
open PySem PySem.Float64 PySem.W PyProof.Rows PySem.Calls

local macro_rules | `(tactic| k_room) => `(tactic| ktr_room)
local macro_rules | `(tactic| walk_at "binaryOp Mod int int") => `(tactic| (k_here; k_dflt (refine' r_mod_ii ?k1 ?_; (case k1 => decide); k_whole); (try dsimp only)))
local macro_rules | `(tactic| walk_at "binaryOp Div int int") => `(tactic| (k_here; k_dflt (refine' r_div_ii ?k1 ?k2 ?k3 ?_; (case k1 => constructor <;> omega); (case k2 => constructor <;> omega); (case k3 => omega); k_whole); (try dsimp only)))
local macro_rules | `(tactic| walk_at "call builtin:math.floor") => `(tactic| (k_here; k_dflt (refine' r_floor_ii ?k0 ?k1 ?k2 ?k3 ?_; (case k0 => rfl); (case k1 => constructor <;> omega); (case k2 => constructor <;> omega); (case k3 => omega); k_whole; (try dsimp only))))
local macro_rules | `(tactic| walk_at "binaryOp Add float int") => `(tactic| (k_here; k_dflt (refine' r_add_fi ?k0 ?k1 ?k2 ?_; (case k0 => first | with_reducible exact rfl | exact lit_epoch); (case k1 => constructor <;> omega); (case k2 => constructor <;> omega); k_whole); (try dsimp only)))
local macro_rules | `(tactic| walk_at "inplaceOp Add float int") => `(tactic| (k_here; k_dflt (refine' r_iadd_fi ?k0 ?k1 ?k2 ?_; (case k0 => with_reducible exact rfl); (case k1 => constructor <;> omega); (case k2 => constructor <;> omega); k_whole); (try dsimp only)))
local macro_rules | `(tactic| walk_at "binaryOp Add int float") => `(tactic| (k_here; k_dflt (refine' r_add_if ?k0 ?k1 ?k2 ?_; (case k0 => first | with_reducible exact rfl | exact lit_half); (case k1 => constructor <;> omega); (case k2 => constructor <;> omega); k_whole); (try dsimp only)))
local macro_rules | `(tactic| walk_at "binaryOp Sub float float") => `(tactic| (k_here; k_dflt (refine' r_sub_ff ?k0 ?k1 ?k2 ?k3 ?k4 ?_; (case k0 => with_reducible exact rfl); (case k1 => with_reducible exact rfl); (case k2 => constructor <;> omega); (case k3 => constructor <;> omega); (case k4 => omega); k_whole); (try dsimp only)))
local macro_rules | `(tactic| walk_at "binaryOp Mult int float") => `(tactic| (k_here; k_dflt (refine' r_mul_if ?k0 ?k1 ?k2 ?k3 ?k4 ?k5 ?_; (case k0 => with_reducible exact rfl); (case k1 => constructor <;> omega); (case k2 => constructor <;> omega); (case k3 => constructor <;> omega); (case k4 => omega); (case k5 => omega); k_whole); (try dsimp only)))
local macro_rules | `(tactic| walk_at "binaryOp Mod float int") => `(tactic| (k_here; k_dflt (refine' r_mod_fi ?k0 ?k1 ?k2 ?k3 ?_; (case k0 => with_reducible exact rfl); (case k1 => constructor <;> omega); (case k2 => constructor <;> omega); (case k3 => decide); k_whole); (try dsimp only)))
local macro_rules | `(tactic| walk_at "compareOp Eq float int") => `(tactic| (k_here; k_dflt (refine' r_eq_fi ?k0 ?k1 ?_; (case k0 => with_reducible exact rfl); (case k1 => constructor <;> omega); k_whole); (try dsimp only)))
local macro_rules | `(tactic| walk_at "compareOp NotEq float int") => `(tactic| (k_here; k_dflt (refine' r_ne_fi ?k0 ?k1 ?_; (case k0 => with_reducible exact rfl); (case k1 => constructor <;> omega); k_whole); (try dsimp only)))
local macro_rules | `(tactic| walk_at "call type:int") => `(tactic| (k_here; k_dflt (refine' r_int ?k0 ?k1 ?k2 ?_; (case k0 => with_reducible exact rfl); (case k1 => constructor <;> omega); (case k2 => omega); k_whole); (try dsimp only)))
set_option hygiene false in
local macro_rules | `(tactic| walk_at "call builtin:divmod") => `(tactic| (k_here; k_dflt (refine' r_divmod ?k1 ?k2 ?k3 ?_ ?kz; (case k1 => k_asm); (case k2 => k_asm); (case k3 => decide); (case kz => exact Or.inl (PyProof.noPylong_small (by omega))); k_whole); intro dq dr h' hdq hdr F' N'; (try dsimp only)))
local macro_rules | `(tactic| walk_at "binaryOp FloorDiv int int") => `(tactic| (k_here; k_dflt (refine' r_fdiv_ii ?k0 ?k1 ?k2 ?_; (case k0 => rfl); (case k1 => decide); (case k2 => exact Or.inl (PyProof.noPylong_small (by omega))); k_whole); (try dsimp only)))
local macro_rules | `(tactic| walk_at "inplaceOp Add ref") => `(tactic| (k_here; (with_reducible show wpAny _ _ (inplaceOp Operator.Add (Value.ref _) (Value.ref _)) _ _ _); k_dflt (refine' iadd_in ?k1 ?k2 ?k3 ?k4 ?k5 ?k6 ?_; (case k1 => k_asm); (case k2 => k_asm); (case k3 => k_mem); (case k4 => k_mem); (case k5 => first | decide | size_fits); (case k6 => k_upd); k_whole); intro h' F' N'; (try k_sweep)))

section
variable {w : World} {mean : ExcName → Option Value} {mg mb : Str → Option Value}
abbrev G01 (w : World) (mean : ExcName → Option Value) (mg mb : Str → Option Value) := Gives PySem.Challenge.rw_ad5025_01.row.prog w (hd01.heap_39 w.params) hd01.view_39 (looseW hd01.view_39 [Str.ofString "to_jd_gregorian", Str.ofString "from_jd_gregorian", Str.ofString "to_jd_hebrew", Str.ofString "from_jd_hebrew"]) mean mg mb

theorem c_leap (y : Int) (t : Tok) : G01 w mean mg mb 1 78 [.int y t] True (fun _ => .bool (lp y)) := by
  unfold G01
  k_fill
  unfold Gives
  intro dp un gd cn cs a ccd cl outer A₀ base h₀ L m s Q E B F X T hk hroom hunits hret
  refine wpAny_call ?_
  k_dflt (refine' code_defG (news := []) ?k1 ?k2 ?k3 News.nil ?k5 ?kA ?kF ?kK ?k6 ?k7 ?k8 ?k9 ?kB ?_ ?c2 ?c3 ?c4 ?c5; (case kA => exact rfl); (case kF => exact rfl); (case kK => assumption); (case k1 => k_asm); (case k2 => k_asm); (case k3 => k_asm); (case k5 => k_asm); (case k6 => k_is); (case k7 => k_is); (case k8 => ktr_room); (case k9 => exact BindsTo.of_eq rfl); (case c5 => decide); (case kB => exact locs rfl); (case c2 => exact rfl); (case c3 => exact rfl); (case c4 => exact rfl); k_whole; intro g' L' h' FG' F' N' B' X' T' GG; (try dsimp only); (try k_lift B'); (try k_fold))
  k_steps
  all_goals (refine g_end (Q := Q) hret 0 rfl GG (by with_reducible assumption) trivial)

theorem c_d1 (y : Int) (t : Tok) (hy : -10 ≤ y ∧ y ≤ 100000010) : G01 w mean mg mb 1 92 [.int y t] (-10000 ≤ d1 y ∧ d1 y ≤ 36600000000) (fun t => .int (d1 y) t) := by
  unfold G01
  k_fill
  unfold Gives
  intro dp un gd cn cs a ccd cl outer A₀ base h₀ L m s Q E B F X T hk hroom hunits hret
  refine wpAny_call ?_
  k_dflt (refine' code_defG (news := []) ?k1 ?k2 ?k3 News.nil ?k5 ?kA ?kF ?kK ?k6 ?k7 ?k8 ?k9 ?kB ?_ ?c2 ?c3 ?c4 ?c5; (case kA => exact rfl); (case kF => exact rfl); (case kK => assumption); (case k1 => k_asm); (case k2 => k_asm); (case k3 => k_asm); (case k5 => k_asm); (case k6 => k_is); (case k7 => k_is); (case k8 => ktr_room); (case k9 => exact BindsTo.of_eq rfl); (case c5 => decide); (case kB => exact locs rfl); (case c2 => exact rfl); (case c3 => exact rfl); (case c4 => exact rfl); k_whole; intro g' L' h' FG' F' N' B' X' T' GG; (try dsimp only); (try k_lift B'); (try k_fold))
  k_steps
  all_goals (refine g_end (Q := Q) hret _ (congrArg (fun z => Value.int z _) ?_) GG (by with_reducible assumption) ?_)
  all_goals (unfold d1 dd mth; split <;> omega)
end
end Mine
namespace Mine
open PySem PySem.Float64 PySem.W PyProof.Rows PySem.Calls

local macro_rules | `(tactic| k_room) => `(tactic| ktr_room)
local macro_rules | `(tactic| walk_at "binaryOp Mod int int") => `(tactic| (k_here; k_dflt (refine' r_mod_ii ?k1 ?_; (case k1 => decide); k_whole); (try dsimp only)))
local macro_rules | `(tactic| walk_at "binaryOp Div int int") => `(tactic| (k_here; k_dflt (refine' r_div_ii ?k1 ?k2 ?k3 ?_; (case k1 => constructor <;> omega); (case k2 => constructor <;> omega); (case k3 => omega); k_whole); (try dsimp only)))
local macro_rules | `(tactic| walk_at "call builtin:math.floor") => `(tactic| (k_here; k_dflt (refine' r_floor_ii ?k0 ?k1 ?k2 ?k3 ?_; (case k0 => rfl); (case k1 => constructor <;> omega); (case k2 => constructor <;> omega); (case k3 => omega); k_whole; (try dsimp only))))
local macro_rules | `(tactic| walk_at "binaryOp Add float int") => `(tactic| (k_here; k_dflt (refine' r_add_fi ?k0 ?k1 ?k2 ?_; (case k0 => first | with_reducible exact rfl | exact lit_epoch); (case k1 => constructor <;> omega); (case k2 => constructor <;> omega); k_whole); (try dsimp only)))
local macro_rules | `(tactic| walk_at "inplaceOp Add float int") => `(tactic| (k_here; k_dflt (refine' r_iadd_fi ?k0 ?k1 ?k2 ?_; (case k0 => with_reducible exact rfl); (case k1 => constructor <;> omega); (case k2 => constructor <;> omega); k_whole); (try dsimp only)))
local macro_rules | `(tactic| walk_at "binaryOp Add int float") => `(tactic| (k_here; k_dflt (refine' r_add_if ?k0 ?k1 ?k2 ?_; (case k0 => first | with_reducible exact rfl | exact lit_half); (case k1 => constructor <;> omega); (case k2 => constructor <;> omega); k_whole); (try dsimp only)))
local macro_rules | `(tactic| walk_at "binaryOp Sub float float") => `(tactic| (k_here; k_dflt (refine' r_sub_ff ?k0 ?k1 ?k2 ?k3 ?k4 ?_; (case k0 => with_reducible exact rfl); (case k1 => with_reducible exact rfl); (case k2 => constructor <;> omega); (case k3 => constructor <;> omega); (case k4 => omega); k_whole); (try dsimp only)))
local macro_rules | `(tactic| walk_at "binaryOp Mult int float") => `(tactic| (k_here; k_dflt (refine' r_mul_if ?k0 ?k1 ?k2 ?k3 ?k4 ?k5 ?_; (case k0 => with_reducible exact rfl); (case k1 => constructor <;> omega); (case k2 => constructor <;> omega); (case k3 => constructor <;> omega); (case k4 => omega); (case k5 => omega); k_whole); (try dsimp only)))
local macro_rules | `(tactic| walk_at "binaryOp Mod float int") => `(tactic| (k_here; k_dflt (refine' r_mod_fi ?k0 ?k1 ?k2 ?k3 ?_; (case k0 => with_reducible exact rfl); (case k1 => constructor <;> omega); (case k2 => constructor <;> omega); (case k3 => decide); k_whole); (try dsimp only)))
local macro_rules | `(tactic| walk_at "compareOp Eq float int") => `(tactic| (k_here; k_dflt (refine' r_eq_fi ?k0 ?k1 ?_; (case k0 => with_reducible exact rfl); (case k1 => constructor <;> omega); k_whole); (try dsimp only)))
local macro_rules | `(tactic| walk_at "compareOp NotEq float int") => `(tactic| (k_here; k_dflt (refine' r_ne_fi ?k0 ?k1 ?_; (case k0 => with_reducible exact rfl); (case k1 => constructor <;> omega); k_whole); (try dsimp only)))
local macro_rules | `(tactic| walk_at "call type:int") => `(tactic| (k_here; k_dflt (refine' r_int ?k0 ?k1 ?k2 ?_; (case k0 => with_reducible exact rfl); (case k1 => constructor <;> omega); (case k2 => omega); k_whole); (try dsimp only)))
set_option hygiene false in
local macro_rules | `(tactic| walk_at "call builtin:divmod") => `(tactic| (k_here; k_dflt (refine' r_divmod ?k1 ?k2 ?k3 ?_ ?kz; (case k1 => k_asm); (case k2 => k_asm); (case k3 => decide); (case kz => exact Or.inl (PyProof.noPylong_small (by omega))); k_whole); intro dq dr h' hdq hdr F' N'; (try dsimp only)))
local macro_rules | `(tactic| walk_at "binaryOp FloorDiv int int") => `(tactic| (k_here; k_dflt (refine' r_fdiv_ii ?k0 ?k1 ?k2 ?_; (case k0 => rfl); (case k1 => decide); (case k2 => exact Or.inl (PyProof.noPylong_small (by omega))); k_whole); (try dsimp only)))
local macro_rules | `(tactic| walk_at "inplaceOp Add ref") => `(tactic| (k_here; (with_reducible show wpAny _ _ (inplaceOp Operator.Add (Value.ref _) (Value.ref _)) _ _ _); k_dflt (refine' iadd_in ?k1 ?k2 ?k3 ?k4 ?k5 ?k6 ?_; (case k1 => k_asm); (case k2 => k_asm); (case k3 => k_mem); (case k4 => k_mem); (case k5 => first | decide | size_fits); (case k6 => k_upd); k_whole); intro h' F' N'; (try k_sweep)))

section
variable {w : World} {mean : ExcName → Option Value} {mg mb : Str → Option Value}

local macro_rules | `(tactic| walk_at "call ref") => `(tactic| (k_here; (with_reducible show wpAny _ _ (PySem.call (Value.ref 78) _ _) _ _ _); k_dflt (refine' Gives.use (c_leap _ _) ?k1 ?k2 ?k3 ?k4 ?k5 ?kK ?kd ?ku ?_; (case k1 => k_asm); (case k2 => k_asm); (case k3 => k_asm); (case k4 => k_asm); (case k5 => k_asm); (case kK => first | exact rfl | assumption); (case kd => ktr_room); (case ku => ktr_units); k_whole; intro t9 h9 tk9 F9 N9 S9 P9; (try (have cE9 := InElt.then (by with_reducible assumption) S9)); (try clear S9); (try k_sweep); (try dsimp only); (try k_fold))))
theorem c_months (y : Int) (t : Tok) : G01 w mean mg mb 2 85 [.int y t] True (fun t => .int (if lp y then 13 else 12) t) := by
  unfold G01
  k_fill
  unfold Gives
  intro dp un gd cn cs a ccd cl outer A₀ base h₀ L m s Q E B F X T hk hroom hunits hret
  refine wpAny_call ?_
  k_dflt (refine' code_defG (news := []) ?k1 ?k2 ?k3 News.nil ?k5 ?kA ?kF ?kK ?k6 ?k7 ?k8 ?k9 ?kB ?_ ?c2 ?c3 ?c4 ?c5; (case kA => exact rfl); (case kF => exact rfl); (case kK => assumption); (case k1 => k_asm); (case k2 => k_asm); (case k3 => k_asm); (case k5 => k_asm); (case k6 => k_is); (case k7 => k_is); (case k8 => ktr_room); (case k9 => exact BindsTo.of_eq rfl); (case c5 => decide); (case kB => exact locs rfl); (case c2 => exact rfl); (case c3 => exact rfl); (case c4 => exact rfl); k_whole; intro g' L' h' FG' F' N' B' X' T' GG; (try dsimp only); (try k_lift B'); (try k_fold))
  k_steps
  all_goals (refine g_end (Q := Q) hret _ (congrArg (fun z => Value.int z _) ?_) GG (by with_reducible assumption) trivial)
  all_goals simp_all

local macro_rules | `(tactic| walk_at "call ref") => `(tactic| (k_here; (with_reducible show wpAny _ _ (PySem.call (Value.ref 92) _ _) _ _ _); k_dflt (refine' Gives.use (c_d1 _ _ ?kp) ?k1 ?k2 ?k3 ?k4 ?k5 ?kK ?kd ?ku ?_; (case kp => constructor <;> omega); (case k1 => k_asm); (case k2 => k_asm); (case k3 => k_asm); (case k4 => k_asm); (case k5 => k_asm); (case kK => first | exact rfl | assumption); (case kd => ktr_room); (case ku => ktr_units); k_whole; intro t9 h9 tk9 F9 N9 S9 P9; (try (have cE9 := InElt.then (by with_reducible assumption) S9)); (try clear S9); (try k_sweep); (try dsimp only); (try k_fold))))
theorem c_d2 (y : Int) (t : Tok) (hy : -5 ≤ y ∧ y ≤ 100000005) : G01 w mean mg mb 2 99 [.int y t] (0 ≤ d2 y ∧ d2 y ≤ 2) (fun t => .int (d2 y) t) := by
  unfold G01
  k_fill
  unfold Gives
  intro dp un gd cn cs a ccd cl outer A₀ base h₀ L m s Q E B F X T hk hroom hunits hret
  refine wpAny_call ?_
  k_dflt (refine' code_defG (news := []) ?k1 ?k2 ?k3 News.nil ?k5 ?kA ?kF ?kK ?k6 ?k7 ?k8 ?k9 ?kB ?_ ?c2 ?c3 ?c4 ?c5; (case kA => exact rfl); (case kF => exact rfl); (case kK => assumption); (case k1 => k_asm); (case k2 => k_asm); (case k3 => k_asm); (case k5 => k_asm); (case k6 => k_is); (case k7 => k_is); (case k8 => ktr_room); (case k9 => exact BindsTo.of_eq rfl); (case c5 => decide); (case kB => exact locs rfl); (case c2 => exact rfl); (case c3 => exact rfl); (case c4 => exact rfl); k_whole; intro g' L' h' FG' F' N' B' X' T' GG; (try dsimp only); (try k_lift B'); (try k_fold))
  k_steps
  all_goals (refine g_end (Q := Q) hret _ (congrArg (fun z => Value.int z _) ?_) GG (by with_reducible assumption) ?_)
  all_goals (unfold d2; (repeat' split) <;> simp_all <;> omega)

local macro_rules | `(tactic| walk_at "call ref") => `(tactic| (k_here; (with_reducible show wpAny _ _ (PySem.call (Value.ref 99) _ _) _ _ _); k_dflt (refine' Gives.use (c_d2 _ _ ?kp) ?k1 ?k2 ?k3 ?k4 ?k5 ?kK ?kd ?ku ?_; (case kp => constructor <;> omega); (case k1 => k_asm); (case k2 => k_asm); (case k3 => k_asm); (case k4 => k_asm); (case k5 => k_asm); (case kK => first | exact rfl | assumption); (case kd => ktr_room); (case ku => ktr_units); k_whole; intro t9 h9 tk9 F9 N9 S9 P9; (try (have cE9 := InElt.then (by with_reducible assumption) S9)); (try clear S9); (try k_sweep); (try dsimp only); (try k_fold))))
local macro_rules | `(tactic| walk_at "call ref") => `(tactic| (k_here; (with_reducible show wpAny _ _ (PySem.call (Value.ref 85) _ _) _ _ _); k_dflt (refine' Gives.use (c_months _ _) ?k1 ?k2 ?k3 ?k4 ?k5 ?kK ?kd ?ku ?_; (case k1 => k_asm); (case k2 => k_asm); (case k3 => k_asm); (case k4 => k_asm); (case k5 => k_asm); (case kK => first | exact rfl | assumption); (case kd => ktr_room); (case ku => ktr_units); k_whole; intro t9 h9 tk9 F9 N9 S9 P9; (try (have cE9 := InElt.then (by with_reducible assumption) S9)); (try clear S9); (try k_sweep); (try dsimp only); (try k_fold))))

theorem c_jd7 (y d : Int) (t t2 t3 : Tok) (hy : 0 ≤ y ∧ y ≤ 100000003) (hd : 1 ≤ d ∧ d ≤ 400) : G01 w mean mg mb 3 127 [.int y t, .int 7 t2, .int d t3] (300000 ≤ ny y ∧ ny y ≤ 36700000000) (fun t => .float (hf (2 * (ny y + d) + 1)) t) := by
  unfold G01
  k_fill
  unfold Gives
  intro dp un gd cn cs a ccd cl outer A₀ base h₀ L m s Q E B F X T hk hroom hunits hret
  refine wpAny_call ?_
  k_dflt (refine' code_defG (news := []) ?k1 ?k2 ?k3 News.nil ?k5 ?kA ?kF ?kK ?k6 ?k7 ?k8 ?k9 ?kB ?_ ?c2 ?c3 ?c4 ?c5; (case kA => exact rfl); (case kF => exact rfl); (case kK => assumption); (case k1 => k_asm); (case k2 => k_asm); (case k3 => k_asm); (case k5 => k_asm); (case k6 => k_is); (case k7 => k_is); (case k8 => ktr_room); (case k9 => exact BindsTo.of_eq rfl); (case c5 => decide); (case kB => exact locs rfl); (case c2 => exact rfl); (case c3 => exact rfl); (case c4 => exact rfl); k_whole; intro g' L' h' FG' F' N' B' X' T' GG; (try dsimp only); (try k_lift B'); (try k_fold))
  k_steps
  all_goals (refine g_end (Q := Q) hret _ (congrArg (fun z => Value.float (hf z) _) ?_) GG (by with_reducible assumption) ?_)
  all_goals (unfold ny; omega)
end
end Mine
namespace Mine
open PySem PySem.Float64 PySem.W PyProof.Rows PySem.Calls
local macro_rules | `(tactic| k_room) => `(tactic| ktr_room)
local macro_rules | `(tactic| walk_at "binaryOp Mod int int") => `(tactic| (k_here; k_dflt (refine' r_mod_ii ?k1 ?_; (case k1 => decide); k_whole); (try dsimp only)))
local macro_rules | `(tactic| walk_at "binaryOp Div int int") => `(tactic| (k_here; k_dflt (refine' r_div_ii ?k1 ?k2 ?k3 ?_; (case k1 => constructor <;> omega); (case k2 => constructor <;> omega); (case k3 => omega); k_whole); (try dsimp only)))
local macro_rules | `(tactic| walk_at "call builtin:math.floor") => `(tactic| (k_here; k_dflt (refine' r_floor_ii ?k0 ?k1 ?k2 ?k3 ?_; (case k0 => rfl); (case k1 => constructor <;> omega); (case k2 => constructor <;> omega); (case k3 => omega); k_whole; (try dsimp only))))
local macro_rules | `(tactic| walk_at "binaryOp Add float int") => `(tactic| (k_here; k_dflt (refine' r_add_fi ?k0 ?k1 ?k2 ?_; (case k0 => first | with_reducible exact rfl | exact lit_epoch); (case k1 => constructor <;> omega); (case k2 => constructor <;> omega); k_whole); (try dsimp only)))
local macro_rules | `(tactic| walk_at "inplaceOp Add float int") => `(tactic| (k_here; k_dflt (refine' r_iadd_fi ?k0 ?k1 ?k2 ?_; (case k0 => with_reducible exact rfl); (case k1 => constructor <;> omega); (case k2 => constructor <;> omega); k_whole); (try dsimp only)))
local macro_rules | `(tactic| walk_at "binaryOp Add int float") => `(tactic| (k_here; k_dflt (refine' r_add_if ?k0 ?k1 ?k2 ?_; (case k0 => first | with_reducible exact rfl | exact lit_half); (case k1 => constructor <;> omega); (case k2 => constructor <;> omega); k_whole); (try dsimp only)))
local macro_rules | `(tactic| walk_at "binaryOp Sub float float") => `(tactic| (k_here; k_dflt (refine' r_sub_ff ?k0 ?k1 ?k2 ?k3 ?k4 ?_; (case k0 => with_reducible exact rfl); (case k1 => with_reducible exact rfl); (case k2 => constructor <;> omega); (case k3 => constructor <;> omega); (case k4 => omega); k_whole); (try dsimp only)))
local macro_rules | `(tactic| walk_at "binaryOp Mult int float") => `(tactic| (k_here; k_dflt (refine' r_mul_if ?k0 ?k1 ?k2 ?k3 ?k4 ?k5 ?_; (case k0 => with_reducible exact rfl); (case k1 => constructor <;> omega); (case k2 => constructor <;> omega); (case k3 => constructor <;> omega); (case k4 => omega); (case k5 => omega); k_whole); (try dsimp only)))
local macro_rules | `(tactic| walk_at "binaryOp Mod float int") => `(tactic| (k_here; k_dflt (refine' r_mod_fi ?k0 ?k1 ?k2 ?k3 ?_; (case k0 => with_reducible exact rfl); (case k1 => constructor <;> omega); (case k2 => constructor <;> omega); (case k3 => decide); k_whole); (try dsimp only)))
local macro_rules | `(tactic| walk_at "compareOp Eq float int") => `(tactic| (k_here; k_dflt (refine' r_eq_fi ?k0 ?k1 ?_; (case k0 => with_reducible exact rfl); (case k1 => constructor <;> omega); k_whole); (try dsimp only)))
local macro_rules | `(tactic| walk_at "compareOp NotEq float int") => `(tactic| (k_here; k_dflt (refine' r_ne_fi ?k0 ?k1 ?_; (case k0 => with_reducible exact rfl); (case k1 => constructor <;> omega); k_whole); (try dsimp only)))
local macro_rules | `(tactic| walk_at "call type:int") => `(tactic| (k_here; k_dflt (refine' r_int ?k0 ?k1 ?k2 ?_; (case k0 => with_reducible exact rfl); (case k1 => constructor <;> omega); (case k2 => omega); k_whole); (try dsimp only)))
set_option hygiene false in
local macro_rules | `(tactic| walk_at "call builtin:divmod") => `(tactic| (k_here; k_dflt (refine' r_divmod ?k1 ?k2 ?k3 ?_ ?kz; (case k1 => k_asm); (case k2 => k_asm); (case k3 => decide); (case kz => exact Or.inl (PyProof.noPylong_small (by omega))); k_whole); intro dq dr h' hdq hdr F' N'; (try dsimp only)))
local macro_rules | `(tactic| walk_at "binaryOp FloorDiv int int") => `(tactic| (k_here; k_dflt (refine' r_fdiv_ii ?k0 ?k1 ?k2 ?_; (case k0 => rfl); (case k1 => decide); (case k2 => exact Or.inl (PyProof.noPylong_small (by omega))); k_whole); (try dsimp only)))
local macro_rules | `(tactic| walk_at "inplaceOp Add ref") => `(tactic| (k_here; (with_reducible show wpAny _ _ (inplaceOp Operator.Add (Value.ref _) (Value.ref _)) _ _ _); k_dflt (refine' iadd_in ?k1 ?k2 ?k3 ?k4 ?k5 ?k6 ?_; (case k1 => k_asm); (case k2 => k_asm); (case k3 => k_mem); (case k4 => k_mem); (case k5 => first | decide | size_fits); (case k6 => k_upd); k_whole); intro h' F' N'; (try k_sweep)))
section
variable {w : World} {mean : ExcName → Option Value} {mg mb : Str → Option Value}
local macro_rules | `(tactic| walk_at "call ref") => `(tactic| (k_here; (with_reducible show wpAny _ _ (PySem.call (Value.ref 78) _ _) _ _ _); k_dflt (refine' Gives.use (c_leap _ _) ?k1 ?k2 ?k3 ?k4 ?k5 ?kK ?kd ?ku ?_; (case k1 => k_asm); (case k2 => k_asm); (case k3 => k_asm); (case k4 => k_asm); (case k5 => k_asm); (case kK => first | exact rfl | assumption); (case kd => ktr_room); (case ku => ktr_units); k_whole; intro t9 h9 tk9 F9 N9 S9 P9; (try (have cE9 := InElt.then (by with_reducible assumption) S9)); (try clear S9); (try k_sweep); (try dsimp only); (try k_fold))))
local macro_rules | `(tactic| walk_at "call ref") => `(tactic| (k_here; (with_reducible show wpAny _ _ (PySem.call (Value.ref 127) _ _) _ _ _); k_dflt (refine' Gives.use (c_jd7 _ _ _ _ _ ?kp ?kq) ?k1 ?k2 ?k3 ?k4 ?k5 ?kK ?kd ?ku ?_; (case kp => constructor <;> omega); (case kq => decide); (case k1 => k_asm); (case k2 => k_asm); (case k3 => k_asm); (case k4 => k_asm); (case k5 => k_asm); (case kK => first | exact rfl | assumption); (case kd => ktr_room); (case ku => ktr_units); k_whole; intro t9 h9 tk9 F9 N9 S9 P9; (try (have cE9 := InElt.then (by with_reducible assumption) S9)); (try clear S9); (try k_sweep); (try dsimp only); (try k_fold))))
theorem c_ydays (y : Int) (t : Tok) (hy : 0 ≤ y ∧ y ≤ 100000002) : G01 w mean mg mb 4 106 [.int y t] (-40000000000 ≤ ylen y ∧ ylen y ≤ 40000000000) (fun t => .float (hf (2 * ylen y)) t) := by
  unfold G01
  k_fill
  unfold Gives
  intro dp un gd cn cs a ccd cl outer A₀ base h₀ L m s Q E B F X T hk hroom hunits hret
  refine wpAny_call ?_
  k_dflt (refine' code_defG (news := []) ?k1 ?k2 ?k3 News.nil ?k5 ?kA ?kF ?kK ?k6 ?k7 ?k8 ?k9 ?kB ?_ ?c2 ?c3 ?c4 ?c5; (case kA => exact rfl); (case kF => exact rfl); (case kK => assumption); (case k1 => k_asm); (case k2 => k_asm); (case k3 => k_asm); (case k5 => k_asm); (case k6 => k_is); (case k7 => k_is); (case k8 => ktr_room); (case k9 => exact BindsTo.of_eq rfl); (case c5 => decide); (case kB => exact locs rfl); (case c2 => exact rfl); (case c3 => exact rfl); (case c4 => exact rfl); k_whole; intro g' L' h' FG' F' N' B' X' T' GG; (try dsimp only); (try k_lift B'); (try k_fold))
  k_steps
  all_goals (refine g_end (Q := Q) hret _ (congrArg (fun z => Value.float (hf z) _) ?_) GG (by with_reducible assumption) ?_)
  all_goals (unfold ylen; omega)

local macro_rules | `(tactic| walk_at "call ref") => `(tactic| (k_here; (with_reducible show wpAny _ _ (PySem.call (Value.ref 106) _ _) _ _ _); k_dflt (refine' Gives.use (c_ydays _ _ ?kp) ?k1 ?k2 ?k3 ?k4 ?k5 ?kK ?kd ?ku ?_; (case kp => constructor <;> omega); (case k1 => k_asm); (case k2 => k_asm); (case k3 => k_asm); (case k4 => k_asm); (case k5 => k_asm); (case kK => first | exact rfl | assumption); (case kd => ktr_room); (case ku => ktr_units); k_whole; intro t9 h9 tk9 F9 N9 S9 P9; (try (have cE9 := InElt.then (by with_reducible assumption) S9)); (try clear S9); (try k_sweep); (try dsimp only); (try k_fold))))
theorem c_ml (y m : Int) (t t2 : Tok) (hy : 0 ≤ y ∧ y ≤ 100000002) (hm : 1 ≤ m ∧ m ≤ 13) : G01 w mean mg mb 5 113 [.int y t, .int m t2] (29 ≤ ml y m ∧ ml y m ≤ 30) (fun t => .int (ml y m) t) := by
  unfold G01
  k_fill
  unfold Gives
  intro dp un gd cn cs a ccd cl outer A₀ base h₀ L m s Q E B F X T hk hroom hunits hret
  refine wpAny_call ?_
  k_dflt (refine' code_defG (news := []) ?k1 ?k2 ?k3 News.nil ?k5 ?kA ?kF ?kK ?k6 ?k7 ?k8 ?k9 ?kB ?_ ?c2 ?c3 ?c4 ?c5; (case kA => exact rfl); (case kF => exact rfl); (case kK => assumption); (case k1 => k_asm); (case k2 => k_asm); (case k3 => k_asm); (case k5 => k_asm); (case k6 => k_is); (case k7 => k_is); (case k8 => ktr_room); (case k9 => exact BindsTo.of_eq rfl); (case c5 => decide); (case kB => exact locs rfl); (case c2 => exact rfl); (case c3 => exact rfl); (case c4 => exact rfl); k_whole; intro g' L' h' FG' F' N' B' X' T' GG; (try dsimp only); (try k_lift B'); (try k_fold))
  k_steps
  all_goals (refine g_end (Q := Q) hret _ (congrArg (fun z => Value.int z _) ?_) GG (by with_reducible assumption) ?_)
  all_goals (unfold ml; (repeat' split) <;> simp_all <;> omega)

local macro_rules | `(tactic| walk_at "call ref") => `(tactic| (k_here; (with_reducible show wpAny _ _ (PySem.call (Value.ref 113) _ _) _ _ _); k_dflt (refine' Gives.use (c_ml _ _ _ _ ?kp ?kq) ?k1 ?k2 ?k3 ?k4 ?k5 ?kK ?kd ?ku ?_; (case kp => constructor <;> omega); (case kq => constructor <;> omega); (case k1 => k_asm); (case k2 => k_asm); (case k3 => k_asm); (case k4 => k_asm); (case k5 => k_asm); (case kK => first | exact rfl | assumption); (case kd => ktr_room); (case ku => ktr_units); k_whole; intro t9 h9 tk9 F9 N9 S9 P9; (try (have cE9 := InElt.then (by with_reducible assumption) S9)); (try clear S9); (try k_sweep); (try dsimp only); (try k_fold))))
theorem c_md (y m : Int) (t t2 : Tok) (hy : 0 ≤ y ∧ y ≤ 100000002) (hm : 1 ≤ m ∧ m ≤ 13) : G01 w mean mg mb 6 120 [.int y t, .int m t2] (29 ≤ ml y m ∧ ml y m ≤ 30) (fun t => .int (ml y m) t) := by
  unfold G01
  k_fill
  unfold Gives
  intro dp un gd cn cs a ccd cl outer A₀ base h₀ L m s Q E B F X T hk hroom hunits hret
  refine wpAny_call ?_
  k_dflt (refine' code_defG (news := []) ?k1 ?k2 ?k3 News.nil ?k5 ?kA ?kF ?kK ?k6 ?k7 ?k8 ?k9 ?kB ?_ ?c2 ?c3 ?c4 ?c5; (case kA => exact rfl); (case kF => exact rfl); (case kK => assumption); (case k1 => k_asm); (case k2 => k_asm); (case k3 => k_asm); (case k5 => k_asm); (case k6 => k_is); (case k7 => k_is); (case k8 => ktr_room); (case k9 => exact BindsTo.of_eq rfl); (case c5 => decide); (case kB => exact locs rfl); (case c2 => exact rfl); (case c3 => exact rfl); (case c4 => exact rfl); k_whole; intro g' L' h' FG' F' N' B' X' T' GG; (try dsimp only); (try k_lift B'); (try k_fold))
  k_steps
  all_goals (refine g_end (Q := Q) hret _ rfl GG (by with_reducible assumption) (by constructor <;> omega))

theorem c_long (y : Int) (t : Tok) : G01 w mean mg mb 1 204 [.int y t] True (fun _ => .bool (lng y)) := by
  unfold G01
  k_fill
  unfold Gives
  intro dp un gd cn cs a ccd cl outer A₀ base h₀ L m s Q E B F X T hk hroom hunits hret
  refine wpAny_call ?_
  k_dflt (refine' code_defG (news := []) ?k1 ?k2 ?k3 News.nil ?k5 ?kA ?kF ?kK ?k6 ?k7 ?k8 ?k9 ?kB ?_ ?c2 ?c3 ?c4 ?c5; (case kA => exact rfl); (case kF => exact rfl); (case kK => assumption); (case k1 => k_asm); (case k2 => k_asm); (case k3 => k_asm); (case k5 => k_asm); (case k6 => k_is); (case k7 => k_is); (case k8 => ktr_room); (case k9 => exact BindsTo.of_eq rfl); (case c5 => decide); (case kB => exact locs rfl); (case c2 => exact rfl); (case c3 => exact rfl); (case c4 => exact rfl); k_whole; intro g' L' h' FG' F' N' B' X' T' GG; (try dsimp only); (try k_lift B'); (try k_fold))
  k_steps
  all_goals (refine g_end (Q := Q) hret 0 (congrArg Value.bool ?_) GG (by with_reducible assumption) trivial)
  all_goals (unfold lng; rw [Bool.eq_iff_iff]; simp only [List.any_cons, List.any_nil, Bool.or_false, Bool.or_eq_true, beq_iff_eq, decide_eq_true_eq]; omega)
theorem c_day (z : Int) (t : Tok) (hz : 0 ≤ z ∧ z ≤ 100000000000) : G01 w mean mg mb 1 169 [.float (hf (2 * z + 1)) t] True (fun t => .int (z + 1) t) := by
  unfold G01
  k_fill
  unfold Gives
  intro dp un gd cn cs a ccd cl outer A₀ base h₀ L m s Q E B F X T hk hroom hunits hret
  refine wpAny_call ?_
  k_dflt (refine' code_defG (news := []) ?k1 ?k2 ?k3 News.nil ?k5 ?kA ?kF ?kK ?k6 ?k7 ?k8 ?k9 ?kB ?_ ?c2 ?c3 ?c4 ?c5; (case kA => exact rfl); (case kF => exact rfl); (case kK => assumption); (case k1 => k_asm); (case k2 => k_asm); (case k3 => k_asm); (case k5 => k_asm); (case k6 => k_is); (case k7 => k_is); (case k8 => ktr_room); (case k9 => exact BindsTo.of_eq rfl); (case c5 => decide); (case kB => exact locs rfl); (case c2 => exact rfl); (case c3 => exact rfl); (case c4 => exact rfl); k_whole; intro g' L' h' FG' F' N' B' X' T' GG; (try dsimp only); (try k_lift B'); (try k_fold))
  k_steps
  all_goals (refine g_end (Q := Q) hret _ (congrArg (fun z => Value.int z _) ?_) GG (by with_reducible assumption) trivial)
  all_goals omega
end
end Mine
namespace Mine
open PySem PySem.Float64 PySem.W PyProof.Rows PySem.Calls
local macro_rules | `(tactic| k_room) => `(tactic| ktr_room)
local macro_rules | `(tactic| walk_at "binaryOp Mod int int") => `(tactic| (k_here; k_dflt (refine' r_mod_ii ?k1 ?_; (case k1 => decide); k_whole); (try dsimp only)))
local macro_rules | `(tactic| walk_at "binaryOp Div int int") => `(tactic| (k_here; k_dflt (refine' r_div_ii ?k1 ?k2 ?k3 ?_; (case k1 => constructor <;> omega); (case k2 => constructor <;> omega); (case k3 => omega); k_whole); (try dsimp only)))
local macro_rules | `(tactic| walk_at "call builtin:math.floor") => `(tactic| (k_here; k_dflt (refine' r_floor_ii ?k0 ?k1 ?k2 ?k3 ?_; (case k0 => rfl); (case k1 => constructor <;> omega); (case k2 => constructor <;> omega); (case k3 => omega); k_whole; (try dsimp only))))
local macro_rules | `(tactic| walk_at "binaryOp Add float int") => `(tactic| (k_here; k_dflt (refine' r_add_fi ?k0 ?k1 ?k2 ?_; (case k0 => first | with_reducible exact rfl | exact lit_epoch); (case k1 => constructor <;> omega); (case k2 => constructor <;> omega); k_whole); (try dsimp only)))
local macro_rules | `(tactic| walk_at "inplaceOp Add float int") => `(tactic| (k_here; k_dflt (refine' r_iadd_fi ?k0 ?k1 ?k2 ?_; (case k0 => with_reducible exact rfl); (case k1 => constructor <;> omega); (case k2 => constructor <;> omega); k_whole); (try dsimp only)))
local macro_rules | `(tactic| walk_at "binaryOp Add int float") => `(tactic| (k_here; k_dflt (refine' r_add_if ?k0 ?k1 ?k2 ?_; (case k0 => first | with_reducible exact rfl | exact lit_half); (case k1 => constructor <;> omega); (case k2 => constructor <;> omega); k_whole); (try dsimp only)))
local macro_rules | `(tactic| walk_at "binaryOp Sub float float") => `(tactic| (k_here; k_dflt (refine' r_sub_ff ?k0 ?k1 ?k2 ?k3 ?k4 ?_; (case k0 => with_reducible exact rfl); (case k1 => with_reducible exact rfl); (case k2 => constructor <;> omega); (case k3 => constructor <;> omega); (case k4 => omega); k_whole); (try dsimp only)))
local macro_rules | `(tactic| walk_at "binaryOp Mult int float") => `(tactic| (k_here; k_dflt (refine' r_mul_if ?k0 ?k1 ?k2 ?k3 ?k4 ?k5 ?_; (case k0 => with_reducible exact rfl); (case k1 => constructor <;> omega); (case k2 => constructor <;> omega); (case k3 => constructor <;> omega); (case k4 => omega); (case k5 => omega); k_whole); (try dsimp only)))
local macro_rules | `(tactic| walk_at "binaryOp Mod float int") => `(tactic| (k_here; k_dflt (refine' r_mod_fi ?k0 ?k1 ?k2 ?k3 ?_; (case k0 => with_reducible exact rfl); (case k1 => constructor <;> omega); (case k2 => constructor <;> omega); (case k3 => decide); k_whole); (try dsimp only)))
local macro_rules | `(tactic| walk_at "compareOp Eq float int") => `(tactic| (k_here; k_dflt (refine' r_eq_fi ?k0 ?k1 ?_; (case k0 => with_reducible exact rfl); (case k1 => constructor <;> omega); k_whole); (try dsimp only)))
local macro_rules | `(tactic| walk_at "compareOp NotEq float int") => `(tactic| (k_here; k_dflt (refine' r_ne_fi ?k0 ?k1 ?_; (case k0 => with_reducible exact rfl); (case k1 => constructor <;> omega); k_whole); (try dsimp only)))
local macro_rules | `(tactic| walk_at "call type:int") => `(tactic| (k_here; k_dflt (refine' r_int ?k0 ?k1 ?k2 ?_; (case k0 => with_reducible exact rfl); (case k1 => constructor <;> omega); (case k2 => omega); k_whole); (try dsimp only)))
set_option hygiene false in
local macro_rules | `(tactic| walk_at "call builtin:divmod") => `(tactic| (k_here; k_dflt (refine' r_divmod ?k1 ?k2 ?k3 ?_ ?kz; (case k1 => k_asm); (case k2 => k_asm); (case k3 => decide); (case kz => exact Or.inl (PyProof.noPylong_small (by omega))); k_whole); intro dq dr h' hdq hdr F' N'; (try dsimp only)))
local macro_rules | `(tactic| walk_at "binaryOp FloorDiv int int") => `(tactic| (k_here; k_dflt (refine' r_fdiv_ii ?k0 ?k1 ?k2 ?_; (case k0 => rfl); (case k1 => decide); (case k2 => exact Or.inl (PyProof.noPylong_small (by omega))); k_whole); (try dsimp only)))
local macro_rules | `(tactic| walk_at "inplaceOp Add ref") => `(tactic| (k_here; (with_reducible show wpAny _ _ (inplaceOp Operator.Add (Value.ref _) (Value.ref _)) _ _ _); k_dflt (refine' iadd_in ?k1 ?k2 ?k3 ?k4 ?k5 ?k6 ?_; (case k1 => k_asm); (case k2 => k_asm); (case k3 => k_mem); (case k4 => k_mem); (case k5 => first | decide | size_fits); (case k6 => k_upd); k_whole); intro h' F' N'; (try k_sweep)))
section
variable {w : World} {mean : ExcName → Option Value} {mg mb : Str → Option Value}
local macro_rules | `(tactic| walk_at "call ref") => `(tactic| (k_here; (with_reducible show wpAny _ _ (PySem.call (Value.ref 204) _ _) _ _ _); k_dflt (refine' Gives.use (c_long _ _) ?k1 ?k2 ?k3 ?k4 ?k5 ?kK ?kd ?ku ?_; (case k1 => k_asm); (case k2 => k_asm); (case k3 => k_asm); (case k4 => k_asm); (case k5 => k_asm); (case kK => first | exact rfl | assumption); (case kd => ktr_room); (case ku => ktr_units); k_whole; intro t9 h9 tk9 F9 N9 S9 P9; (try (have cE9 := InElt.then (by with_reducible assumption) S9)); (try clear S9); (try k_sweep); (try dsimp only); (try k_fold))))
theorem c_lny (y : Int) (t : Tok) (hy : 1 ≤ y ∧ y ≤ 100000003) : G01 w mean mg mb 2 209 [.int y t] True (fun t => .int (lny y) t) := by
  unfold G01
  k_fill
  unfold Gives
  intro dp un gd cn cs a ccd cl outer A₀ base h₀ L m s Q E B F X T hk hroom hunits hret
  refine wpAny_call ?_
  k_dflt (refine' code_defG (news := []) ?k1 ?k2 ?k3 News.nil ?k5 ?kA ?kF ?kK ?k6 ?k7 ?k8 ?k9 ?kB ?_ ?c2 ?c3 ?c4 ?c5; (case kA => exact rfl); (case kF => exact rfl); (case kK => assumption); (case k1 => k_asm); (case k2 => k_asm); (case k3 => k_asm); (case k5 => k_asm); (case k6 => k_is); (case k7 => k_is); (case k8 => ktr_room); (case k9 => exact BindsTo.of_eq rfl); (case c5 => decide); (case kB => exact locs rfl); (case c2 => exact rfl); (case c3 => exact rfl); (case c4 => exact rfl); k_whole; intro g' L' h' FG' F' N' B' X' T' GG; (try dsimp only); (try k_lift B'); (try k_fold))
  k_steps
  all_goals (refine g_end (Q := Q) hret _ (congrArg (fun z => Value.int z _) ?_) GG (by with_reducible assumption) trivial)
  all_goals (first
    | exact eAt hdq hdr (mo_is (by with_reducible assumption) (by with_reducible assumption)) (by with_reducible assumption) (by with_reducible assumption)
    | exact eAf hdq hdr (mo_is (by with_reducible assumption) (by with_reducible assumption)) (by with_reducible assumption) (by with_reducible assumption)
    | exact eBt hdq hdr (mo_is (by with_reducible assumption) (by with_reducible assumption)) (by with_reducible assumption) (by with_reducible assumption) (by with_reducible assumption) (by with_reducible assumption) (by with_reducible assumption)
    | exact eBf hdq hdr (mo_is (by with_reducible assumption) (by with_reducible assumption)) (by with_reducible assumption) (by with_reducible assumption) (by with_reducible assumption) (by with_reducible assumption) (by with_reducible assumption)
    | exact no21 (d := dq) (by with_reducible assumption) (by with_reducible assumption)
    | exact eBn hdq hdr (mo_is (by with_reducible assumption) (by with_reducible assumption)) (by with_reducible assumption) (by with_reducible assumption) (by with_reducible assumption) (by with_reducible assumption)
    | exact eCn hdq hdr (mo_is (by with_reducible assumption) (by with_reducible assumption)) (by with_reducible assumption) (by first | exact .inl (by with_reducible assumption) | exact .inr (.inl (by with_reducible assumption)) | exact .inr (.inr (by with_reducible assumption))) (by with_reducible assumption) (by with_reducible assumption) (by with_reducible assumption)
    | exact eCt hdq hdr (mo_is (by with_reducible assumption) (by with_reducible assumption)) (by with_reducible assumption) (by first | exact .inl (by with_reducible assumption) | exact .inr (.inl (by with_reducible assumption)) | exact .inr (.inr (by with_reducible assumption))) (by with_reducible assumption) (by with_reducible assumption) (by with_reducible assumption) (by with_reducible assumption)
    | exact eCf hdq hdr (mo_is (by with_reducible assumption) (by with_reducible assumption)) (by with_reducible assumption) (by first | exact .inl (by with_reducible assumption) | exact .inr (.inl (by with_reducible assumption)) | exact .inr (.inr (by with_reducible assumption))) (by with_reducible assumption) (by with_reducible assumption) (by with_reducible assumption) (by with_reducible assumption)
    | exact eDt hdq hdr (mo_is (by with_reducible assumption) (by with_reducible assumption)) (by with_reducible assumption) (by first | exact .inl (by with_reducible assumption) | exact .inr (.inl (by with_reducible assumption)) | exact .inr (.inr (by with_reducible assumption))) (by first | exact .inl (by with_reducible assumption) | exact .inr (.inl (by with_reducible assumption)) | exact .inr (.inr (by with_reducible assumption))) (by with_reducible assumption)
    | exact eDf hdq hdr (mo_is (by with_reducible assumption) (by with_reducible assumption)) (by with_reducible assumption) (by first | exact .inl (by with_reducible assumption) | exact .inr (.inl (by with_reducible assumption)) | exact .inr (.inr (by with_reducible assumption))) (by first | exact .inl (by with_reducible assumption) | exact .inr (.inl (by with_reducible assumption)) | exact .inr (.inr (by with_reducible assumption))) (by with_reducible assumption))
end
end Mine
namespace Mine
open PySem PySem.Float64 PySem.W PyProof.Rows PySem.Calls
local macro_rules | `(tactic| k_room) => `(tactic| ktr_room)
local macro_rules | `(tactic| walk_at "binaryOp Mod int int") => `(tactic| (k_here; k_dflt (refine' r_mod_ii ?k1 ?_; (case k1 => decide); k_whole); (try dsimp only)))
local macro_rules | `(tactic| walk_at "binaryOp Div int int") => `(tactic| (k_here; k_dflt (refine' r_div_ii ?k1 ?k2 ?k3 ?_; (case k1 => constructor <;> omega); (case k2 => constructor <;> omega); (case k3 => omega); k_whole); (try dsimp only)))
local macro_rules | `(tactic| walk_at "call builtin:math.floor") => `(tactic| (k_here; k_dflt (refine' r_floor_ii ?k0 ?k1 ?k2 ?k3 ?_; (case k0 => rfl); (case k1 => constructor <;> omega); (case k2 => constructor <;> omega); (case k3 => omega); k_whole; (try dsimp only))))
local macro_rules | `(tactic| walk_at "binaryOp Add float int") => `(tactic| (k_here; k_dflt (refine' r_add_fi ?k0 ?k1 ?k2 ?_; (case k0 => first | with_reducible exact rfl | exact lit_epoch); (case k1 => constructor <;> omega); (case k2 => constructor <;> omega); k_whole); (try dsimp only)))
local macro_rules | `(tactic| walk_at "inplaceOp Add float int") => `(tactic| (k_here; k_dflt (refine' r_iadd_fi ?k0 ?k1 ?k2 ?_; (case k0 => with_reducible exact rfl); (case k1 => constructor <;> omega); (case k2 => constructor <;> omega); k_whole); (try dsimp only)))
local macro_rules | `(tactic| walk_at "binaryOp Add int float") => `(tactic| (k_here; k_dflt (refine' r_add_if ?k0 ?k1 ?k2 ?_; (case k0 => first | with_reducible exact rfl | exact lit_half); (case k1 => constructor <;> omega); (case k2 => constructor <;> omega); k_whole); (try dsimp only)))
local macro_rules | `(tactic| walk_at "binaryOp Sub float float") => `(tactic| (k_here; k_dflt (refine' r_sub_ff ?k0 ?k1 ?k2 ?k3 ?k4 ?_; (case k0 => with_reducible exact rfl); (case k1 => with_reducible exact rfl); (case k2 => constructor <;> omega); (case k3 => constructor <;> omega); (case k4 => omega); k_whole); (try dsimp only)))
local macro_rules | `(tactic| walk_at "binaryOp Mult int float") => `(tactic| (k_here; k_dflt (refine' r_mul_if ?k0 ?k1 ?k2 ?k3 ?k4 ?k5 ?_; (case k0 => with_reducible exact rfl); (case k1 => constructor <;> omega); (case k2 => constructor <;> omega); (case k3 => constructor <;> omega); (case k4 => omega); (case k5 => omega); k_whole); (try dsimp only)))
local macro_rules | `(tactic| walk_at "binaryOp Mod float int") => `(tactic| (k_here; k_dflt (refine' r_mod_fi ?k0 ?k1 ?k2 ?k3 ?_; (case k0 => with_reducible exact rfl); (case k1 => constructor <;> omega); (case k2 => constructor <;> omega); (case k3 => decide); k_whole); (try dsimp only)))
local macro_rules | `(tactic| walk_at "compareOp Eq float int") => `(tactic| (k_here; k_dflt (refine' r_eq_fi ?k0 ?k1 ?_; (case k0 => with_reducible exact rfl); (case k1 => constructor <;> omega); k_whole); (try dsimp only)))
local macro_rules | `(tactic| walk_at "compareOp NotEq float int") => `(tactic| (k_here; k_dflt (refine' r_ne_fi ?k0 ?k1 ?_; (case k0 => with_reducible exact rfl); (case k1 => constructor <;> omega); k_whole); (try dsimp only)))
local macro_rules | `(tactic| walk_at "call type:int") => `(tactic| (k_here; k_dflt (refine' r_int ?k0 ?k1 ?k2 ?_; (case k0 => with_reducible exact rfl); (case k1 => constructor <;> omega); (case k2 => omega); k_whole); (try dsimp only)))
set_option hygiene false in
local macro_rules | `(tactic| walk_at "call builtin:divmod") => `(tactic| (k_here; k_dflt (refine' r_divmod ?k1 ?k2 ?k3 ?_ ?kz; (case k1 => k_asm); (case k2 => k_asm); (case k3 => decide); (case kz => exact Or.inl (PyProof.noPylong_small (by omega))); k_whole); intro dq dr h' hdq hdr F' N'; (try dsimp only)))
local macro_rules | `(tactic| walk_at "binaryOp FloorDiv int int") => `(tactic| (k_here; k_dflt (refine' r_fdiv_ii ?k0 ?k1 ?k2 ?_; (case k0 => rfl); (case k1 => decide); (case k2 => exact Or.inl (PyProof.noPylong_small (by omega))); k_whole); (try dsimp only)))
local macro_rules | `(tactic| walk_at "inplaceOp Add ref") => `(tactic| (k_here; (with_reducible show wpAny _ _ (inplaceOp Operator.Add (Value.ref _) (Value.ref _)) _ _ _); k_dflt (refine' iadd_in ?k1 ?k2 ?k3 ?k4 ?k5 ?k6 ?_; (case k1 => k_asm); (case k2 => k_asm); (case k3 => k_mem); (case k4 => k_mem); (case k5 => first | decide | size_fits); (case k6 => k_upd); k_whole); intro h' F' N'; (try k_sweep)))
section
variable {w : World} {mean : ExcName → Option Value} {mg mb : Str → Option Value}
local macro_rules | `(tactic| walk_at "call ref") => `(tactic| (k_here; (with_reducible show wpAny _ _ (PySem.call (Value.ref 92) _ _) _ _ _); k_dflt (refine' Gives.use (c_d1 _ _ ?kp) ?k1 ?k2 ?k3 ?k4 ?k5 ?kK ?kd ?ku ?_; (case kp => constructor <;> omega); (case k1 => k_asm); (case k2 => k_asm); (case k3 => k_asm); (case k4 => k_asm); (case k5 => k_asm); (case kK => first | exact rfl | assumption); (case kd => ktr_room); (case ku => ktr_units); k_whole; intro t9 h9 tk9 F9 N9 S9 P9; (try (have cE9 := InElt.then (by with_reducible assumption) S9)); (try clear S9); (try k_sweep); (try dsimp only); (try k_fold))))
local macro_rules | `(tactic| walk_at "call ref") => `(tactic| (k_here; (with_reducible show wpAny _ _ (PySem.call (Value.ref 99) _ _) _ _ _); k_dflt (refine' Gives.use (c_d2 _ _ ?kp) ?k1 ?k2 ?k3 ?k4 ?k5 ?kK ?kd ?ku ?_; (case kp => constructor <;> omega); (case k1 => k_asm); (case k2 => k_asm); (case k3 => k_asm); (case k4 => k_asm); (case k5 => k_asm); (case kK => first | exact rfl | assumption); (case kd => ktr_room); (case ku => ktr_units); k_whole; intro t9 h9 tk9 F9 N9 S9 P9; (try (have cE9 := InElt.then (by with_reducible assumption) S9)); (try clear S9); (try k_sweep); (try dsimp only); (try k_fold))))
local macro_rules | `(tactic| walk_at "call ref") => `(tactic| (k_here; (with_reducible show wpAny _ _ (PySem.call (Value.ref 85) _ _) _ _ _); k_dflt (refine' Gives.use (c_months _ _) ?k1 ?k2 ?k3 ?k4 ?k5 ?kK ?kd ?ku ?_; (case k1 => k_asm); (case k2 => k_asm); (case k3 => k_asm); (case k4 => k_asm); (case k5 => k_asm); (case kK => first | exact rfl | assumption); (case kd => ktr_room); (case ku => ktr_units); k_whole; intro t9 h9 tk9 F9 N9 S9 P9; (try (have cE9 := InElt.then (by with_reducible assumption) S9)); (try clear S9); (try k_sweep); (try dsimp only); (try k_fold))))
local macro_rules | `(tactic| walk_at "call ref") => `(tactic| (k_here; (with_reducible show wpAny _ _ (PySem.call (Value.ref 120) _ _) _ _ _); k_dflt (refine' Gives.use (c_md _ _ _ _ ?kp ?kq) ?k1 ?k2 ?k3 ?k4 ?k5 ?kK ?kd ?ku ?_; (case kp => constructor <;> omega); (case kq => constructor <;> omega); (case k1 => k_asm); (case k2 => k_asm); (case k3 => k_asm); (case k4 => k_asm); (case k5 => k_asm); (case kK => first | exact rfl | assumption); (case kd => ktr_room); (case ku => ktr_units); k_whole; intro t9 h9 tk9 F9 N9 S9 P9; (try (have cE9 := InElt.then (by with_reducible assumption) S9)); (try clear S9); (try k_sweep); (try dsimp only); (try k_fold))))
set_option hygiene false in
local macro_rules | `(tactic| walk_at "pyIter ref") => `(tactic| (k_here; (with_reducible show wpAny _ _ (pyIter (Value.ref _)) (fun it s₂ => LoopAtV _ _ _ _ _ _ _ _ _ it s₂) _ _); k_dflt (refine' jd_range (nm := Str.ofString "jd") (ml y) ?hh ?hr ?hsm ?hF ?hN ?hk ?hy ?hx ?hn ?hg ?_ ?_; (case hh => rfl); (case hr => assumption); (case hsm => exact small_one (by omega) (by omega) (by omega) (by omega)); (case hF => k_asm); (case hN => k_asm); (case hk => exact rfl); (case hy => with_reducible exact rfl); (case hx => decide); (case hn => omega); (case hg => exact ml_bnd y)); all_goals (intro; intros; (try dsimp only); (try k_fold))))
theorem c_jd (y m d : Int) (t t2 t3 : Tok) (hy : 0 ≤ y ∧ y ≤ 100000002) (hm : 1 ≤ m ∧ m ≤ 13) (hd : 1 ≤ d ∧ d ≤ 400) : G01 w mean mg mb 7 127 [.int y t, .int m t2, .int d t3] (0 ≤ off y m ∧ off y m ≤ 800 ∧ 300000 ≤ ny y ∧ ny y ≤ 36700000000) (fun t => .float (hf (2 * (ny y + off y m + d) + 1)) t) := by
  have hlb : 12 ≤ (if lp y then (13 : Int) else 12) ∧ (if lp y then (13 : Int) else 12) ≤ 13 := by split <;> omega
  unfold G01
  k_fill
  unfold Gives
  intro dp un gd cn cs a ccd cl outer A₀ base h₀ L m s Q E B F X T hk hroom hunits hret
  refine wpAny_call ?_
  k_dflt (refine' code_defG (news := []) ?k1 ?k2 ?k3 News.nil ?k5 ?kA ?kF ?kK ?k6 ?k7 ?k8 ?k9 ?kB ?_ ?c2 ?c3 ?c4 ?c5; (case kA => exact rfl); (case kF => exact rfl); (case kK => assumption); (case k1 => k_asm); (case k2 => k_asm); (case k3 => k_asm); (case k5 => k_asm); (case k6 => k_is); (case k7 => k_is); (case k8 => ktr_room); (case k9 => exact BindsTo.of_eq rfl); (case c5 => decide); (case kB => exact locs rfl); (case c2 => exact rfl); (case c3 => exact rfl); (case c4 => exact rfl); k_whole; intro g' L' h' FG' F' N' B' X' T' GG; (try dsimp only); (try k_lift B'); (try k_fold))
  k_steps
  all_goals (first
    | refine g_end (Q := Q) hret _ (congrArg (fun z => Value.float (hf z) _) ?_) GG (by with_reducible assumption) ?_
    | (refine TEnd.intro (by k_asm) (by k_asm) (fun p hp => hp) ⟨_, rfl⟩ ?_; intro z h1 h2; simp only [h1, h2, if_false]))
  all_goals ((try unfold ny); unfold off sg; split <;> omega)
end
end Mine
namespace Mine
open PySem PySem.Float64 PySem.W PyProof.Rows PySem.Calls
local macro_rules | `(tactic| k_room) => `(tactic| ktr_room)
local macro_rules | `(tactic| walk_at "binaryOp Mod int int") => `(tactic| (k_here; k_dflt (refine' r_mod_ii ?k1 ?_; (case k1 => decide); k_whole); (try dsimp only)))
local macro_rules | `(tactic| walk_at "binaryOp Div int int") => `(tactic| (k_here; k_dflt (refine' r_div_ii ?k1 ?k2 ?k3 ?_; (case k1 => constructor <;> omega); (case k2 => constructor <;> omega); (case k3 => omega); k_whole); (try dsimp only)))
local macro_rules | `(tactic| walk_at "call builtin:math.floor") => `(tactic| (k_here; k_dflt (refine' r_floor_ii ?k0 ?k1 ?k2 ?k3 ?_; (case k0 => rfl); (case k1 => constructor <;> omega); (case k2 => constructor <;> omega); (case k3 => omega); k_whole; (try dsimp only))))
local macro_rules | `(tactic| walk_at "binaryOp Add float int") => `(tactic| (k_here; k_dflt (refine' r_add_fi ?k0 ?k1 ?k2 ?_; (case k0 => first | with_reducible exact rfl | exact lit_epoch); (case k1 => constructor <;> omega); (case k2 => constructor <;> omega); k_whole); (try dsimp only)))
local macro_rules | `(tactic| walk_at "inplaceOp Add float int") => `(tactic| (k_here; k_dflt (refine' r_iadd_fi ?k0 ?k1 ?k2 ?_; (case k0 => with_reducible exact rfl); (case k1 => constructor <;> omega); (case k2 => constructor <;> omega); k_whole); (try dsimp only)))
local macro_rules | `(tactic| walk_at "binaryOp Add int float") => `(tactic| (k_here; k_dflt (refine' r_add_if ?k0 ?k1 ?k2 ?_; (case k0 => first | with_reducible exact rfl | exact lit_half); (case k1 => constructor <;> omega); (case k2 => constructor <;> omega); k_whole); (try dsimp only)))
local macro_rules | `(tactic| walk_at "binaryOp Sub float float") => `(tactic| (k_here; k_dflt (refine' r_sub_ff ?k0 ?k1 ?k2 ?k3 ?k4 ?_; (case k0 => with_reducible exact rfl); (case k1 => with_reducible exact rfl); (case k2 => constructor <;> omega); (case k3 => constructor <;> omega); (case k4 => omega); k_whole); (try dsimp only)))
local macro_rules | `(tactic| walk_at "binaryOp Mult int float") => `(tactic| (k_here; k_dflt (refine' r_mul_if ?k0 ?k1 ?k2 ?k3 ?k4 ?k5 ?_; (case k0 => with_reducible exact rfl); (case k1 => constructor <;> omega); (case k2 => constructor <;> omega); (case k3 => constructor <;> omega); (case k4 => omega); (case k5 => omega); k_whole); (try dsimp only)))
local macro_rules | `(tactic| walk_at "binaryOp Mod float int") => `(tactic| (k_here; k_dflt (refine' r_mod_fi ?k0 ?k1 ?k2 ?k3 ?_; (case k0 => with_reducible exact rfl); (case k1 => constructor <;> omega); (case k2 => constructor <;> omega); (case k3 => decide); k_whole); (try dsimp only)))
local macro_rules | `(tactic| walk_at "compareOp Eq float int") => `(tactic| (k_here; k_dflt (refine' r_eq_fi ?k0 ?k1 ?_; (case k0 => with_reducible exact rfl); (case k1 => constructor <;> omega); k_whole); (try dsimp only)))
local macro_rules | `(tactic| walk_at "compareOp NotEq float int") => `(tactic| (k_here; k_dflt (refine' r_ne_fi ?k0 ?k1 ?_; (case k0 => with_reducible exact rfl); (case k1 => constructor <;> omega); k_whole); (try dsimp only)))
local macro_rules | `(tactic| walk_at "call type:int") => `(tactic| (k_here; k_dflt (refine' r_int ?k0 ?k1 ?k2 ?_; (case k0 => with_reducible exact rfl); (case k1 => constructor <;> omega); (case k2 => omega); k_whole); (try dsimp only)))
set_option hygiene false in
local macro_rules | `(tactic| walk_at "call builtin:divmod") => `(tactic| (k_here; k_dflt (refine' r_divmod ?k1 ?k2 ?k3 ?_ ?kz; (case k1 => k_asm); (case k2 => k_asm); (case k3 => decide); (case kz => exact Or.inl (PyProof.noPylong_small (by omega))); k_whole); intro dq dr h' hdq hdr F' N'; (try dsimp only)))
local macro_rules | `(tactic| walk_at "binaryOp FloorDiv int int") => `(tactic| (k_here; k_dflt (refine' r_fdiv_ii ?k0 ?k1 ?k2 ?_; (case k0 => rfl); (case k1 => decide); (case k2 => exact Or.inl (PyProof.noPylong_small (by omega))); k_whole); (try dsimp only)))
local macro_rules | `(tactic| walk_at "inplaceOp Add ref") => `(tactic| (k_here; (with_reducible show wpAny _ _ (inplaceOp Operator.Add (Value.ref _) (Value.ref _)) _ _ _); k_dflt (refine' iadd_in ?k1 ?k2 ?k3 ?k4 ?k5 ?k6 ?_; (case k1 => k_asm); (case k2 => k_asm); (case k3 => k_mem); (case k4 => k_mem); (case k5 => first | decide | size_fits); (case k6 => k_upd); k_whole); intro h' F' N'; (try k_sweep)))
section
variable {w : World} {mean : ExcName → Option Value} {mg mb : Str → Option Value}
local macro_rules | `(tactic| walk_at "call ref") => `(tactic| (k_here; (with_reducible show wpAny _ _ (PySem.call (Value.ref 204) _ _) _ _ _); k_dflt (refine' Gives.use (c_long _ _) ?k1 ?k2 ?k3 ?k4 ?k5 ?kK ?kd ?ku ?_; (case k1 => k_asm); (case k2 => k_asm); (case k3 => k_asm); (case k4 => k_asm); (case k5 => k_asm); (case kK => first | exact rfl | assumption); (case kd => ktr_room); (case ku => ktr_units); k_whole; intro t9 h9 tk9 F9 N9 S9 P9; (try (have cE9 := InElt.then (by with_reducible assumption) S9)); (try clear S9); (try k_sweep); (try dsimp only); (try k_fold))))
local macro_rules | `(tactic| walk_at "call ref") => `(tactic| (k_here; (with_reducible show wpAny _ _ (PySem.call (Value.ref 209) _ _) _ _ _); k_dflt (refine' Gives.use (c_lny _ _ ?kp) ?k1 ?k2 ?k3 ?k4 ?k5 ?kK ?kd ?ku ?_; (case kp => constructor <;> omega); (case k1 => k_asm); (case k2 => k_asm); (case k3 => k_asm); (case k4 => k_asm); (case k5 => k_asm); (case kK => first | exact rfl | assumption); (case kd => ktr_room); (case ku => ktr_units); k_whole; intro t9 h9 tk9 F9 N9 S9 P9; (try (have cE9 := InElt.then (by with_reducible assumption) S9)); (try clear S9); (try k_sweep); (try dsimp only); (try k_fold))))
abbrev R01 (w : World) (mean : ExcName → Option Value) (mg mb : Str → Option Value) := GivesRow2 PySem.Challenge.rw_ad5025_01.row.prog w (hd01.heap_39 w.params) hd01.view_39 (looseW hd01.view_39 [Str.ofString "to_jd_gregorian", Str.ofString "from_jd_gregorian", Str.ofString "to_jd_hebrew", Str.ofString "from_jd_hebrew"]) mean mg mb
theorem c_row2 (y : Int) (t : Tok) (hy : 1 ≤ y ∧ y ≤ 100000001) : R01 w mean mg mb 3 216 [.int y t] (rowsOf y) := by
  unfold R01
  k_fill
  unfold GivesRow2
  intro dp un gd cn cs a ccd cl outer A₀ base h₀ L m s Q E B F X T hk hroom hunits hret
  refine wpAny_call ?_
  k_dflt (refine' code_defG (news := []) ?k1 ?k2 ?k3 News.nil ?k5 ?kA ?kF ?kK ?k6 ?k7 ?k8 ?k9 ?kB ?_ ?c2 ?c3 ?c4 ?c5; (case kA => exact rfl); (case kF => exact rfl); (case kK => assumption); (case k1 => k_asm); (case k2 => k_asm); (case k3 => k_asm); (case k5 => k_asm); (case k6 => k_is); (case k7 => k_is); (case k8 => ktr_room); (case k9 => exact BindsTo.of_eq rfl); (case c5 => decide); (case kB => exact locs rfl); (case c2 => exact rfl); (case c3 => exact rfl); (case c4 => exact rfl); k_whole; intro g' L' h' FG' F' N' B' X' T' GG; (try dsimp only); (try k_lift B'); (try k_fold))
  k_steps
  all_goals (refine' row_end2 (Q := Q) hret GG (by with_reducible assumption) (by k_asm) ?hm ?hr; (case hm => k_mem); (case hr => ((first | rw [rows_t (m8t (by with_reducible assumption)) (m9t (by with_reducible assumption)) (by with_reducible assumption)] | rw [rows_t (m8t (by with_reducible assumption)) (m9f (by with_reducible assumption)) (by with_reducible assumption)] | rw [rows_t (m8f (by with_reducible assumption)) (m9t (by with_reducible assumption)) (by with_reducible assumption)] | rw [rows_t (m8f (by with_reducible assumption)) (m9f (by with_reducible assumption)) (by with_reducible assumption)] | rw [rows_f (m8t (by with_reducible assumption)) (m9t (by with_reducible assumption)) (by with_reducible assumption)] | rw [rows_f (m8t (by with_reducible assumption)) (m9f (by with_reducible assumption)) (by with_reducible assumption)] | rw [rows_f (m8f (by with_reducible assumption)) (m9t (by with_reducible assumption)) (by with_reducible assumption)] | rw [rows_f (m8f (by with_reducible assumption)) (m9f (by with_reducible assumption)) (by with_reducible assumption)]); (repeat' (first | exact Rows.nil | (refine' Rows.cons ?km ?_; (case km => k_mem)))))))
theorem c_row (y : Int) (t : Tok) (hy : 1 ≤ y ∧ y ≤ 100000001) : GivesRow PySem.Challenge.rw_ad5025_01.row.prog w (hd01.heap_39 w.params) hd01.view_39 (looseW hd01.view_39 [Str.ofString "to_jd_gregorian", Str.ofString "from_jd_gregorian", Str.ofString "to_jd_hebrew", Str.ofString "from_jd_hebrew"]) mean mg mb 3 216 [.int y t] (rowsOf y) := GivesRow2.toRow (c_row2 y t hy)
end
end Mine
namespace Mine
open PySem PySem.Float64 PySem.W PyProof.Rows PySem.Calls
local macro_rules | `(tactic| k_room) => `(tactic| ktr_room)
local macro_rules | `(tactic| walk_at "binaryOp Mod int int") => `(tactic| (k_here; k_dflt (refine' r_mod_ii ?k1 ?_; (case k1 => decide); k_whole); (try dsimp only)))
local macro_rules | `(tactic| walk_at "binaryOp Div int int") => `(tactic| (k_here; k_dflt (refine' r_div_ii ?k1 ?k2 ?k3 ?_; (case k1 => constructor <;> omega); (case k2 => constructor <;> omega); (case k3 => omega); k_whole); (try dsimp only)))
local macro_rules | `(tactic| walk_at "call builtin:math.floor") => `(tactic| (k_here; k_dflt (refine' r_floor_ii ?k0 ?k1 ?k2 ?k3 ?_; (case k0 => rfl); (case k1 => constructor <;> omega); (case k2 => constructor <;> omega); (case k3 => omega); k_whole; (try dsimp only))))
local macro_rules | `(tactic| walk_at "binaryOp Add float int") => `(tactic| (k_here; k_dflt (refine' r_add_fi ?k0 ?k1 ?k2 ?_; (case k0 => first | with_reducible exact rfl | exact lit_epoch); (case k1 => constructor <;> omega); (case k2 => constructor <;> omega); k_whole); (try dsimp only)))
local macro_rules | `(tactic| walk_at "inplaceOp Add float int") => `(tactic| (k_here; k_dflt (refine' r_iadd_fi ?k0 ?k1 ?k2 ?_; (case k0 => with_reducible exact rfl); (case k1 => constructor <;> omega); (case k2 => constructor <;> omega); k_whole); (try dsimp only)))
local macro_rules | `(tactic| walk_at "binaryOp Add int float") => `(tactic| (k_here; k_dflt (refine' r_add_if ?k0 ?k1 ?k2 ?_; (case k0 => first | with_reducible exact rfl | exact lit_half); (case k1 => constructor <;> omega); (case k2 => constructor <;> omega); k_whole); (try dsimp only)))
local macro_rules | `(tactic| walk_at "binaryOp Sub float float") => `(tactic| (k_here; k_dflt (refine' r_sub_ff ?k0 ?k1 ?k2 ?k3 ?k4 ?_; (case k0 => with_reducible exact rfl); (case k1 => with_reducible exact rfl); (case k2 => constructor <;> omega); (case k3 => constructor <;> omega); (case k4 => omega); k_whole); (try dsimp only)))
local macro_rules | `(tactic| walk_at "binaryOp Mult int float") => `(tactic| (k_here; k_dflt (refine' r_mul_if ?k0 ?k1 ?k2 ?k3 ?k4 ?k5 ?_; (case k0 => with_reducible exact rfl); (case k1 => constructor <;> omega); (case k2 => constructor <;> omega); (case k3 => constructor <;> omega); (case k4 => omega); (case k5 => omega); k_whole); (try dsimp only)))
local macro_rules | `(tactic| walk_at "binaryOp Mod float int") => `(tactic| (k_here; k_dflt (refine' r_mod_fi ?k0 ?k1 ?k2 ?k3 ?_; (case k0 => with_reducible exact rfl); (case k1 => constructor <;> omega); (case k2 => constructor <;> omega); (case k3 => decide); k_whole); (try dsimp only)))
local macro_rules | `(tactic| walk_at "compareOp Eq float int") => `(tactic| (k_here; k_dflt (refine' r_eq_fi ?k0 ?k1 ?_; (case k0 => with_reducible exact rfl); (case k1 => constructor <;> omega); k_whole); (try dsimp only)))
local macro_rules | `(tactic| walk_at "compareOp NotEq float int") => `(tactic| (k_here; k_dflt (refine' r_ne_fi ?k0 ?k1 ?_; (case k0 => with_reducible exact rfl); (case k1 => constructor <;> omega); k_whole); (try dsimp only)))
local macro_rules | `(tactic| walk_at "call type:int") => `(tactic| (k_here; k_dflt (refine' r_int ?k0 ?k1 ?k2 ?_; (case k0 => with_reducible exact rfl); (case k1 => constructor <;> omega); (case k2 => omega); k_whole); (try dsimp only)))
set_option hygiene false in
local macro_rules | `(tactic| walk_at "call builtin:divmod") => `(tactic| (k_here; k_dflt (refine' r_divmod ?k1 ?k2 ?k3 ?_ ?kz; (case k1 => k_asm); (case k2 => k_asm); (case k3 => decide); (case kz => exact Or.inl (PyProof.noPylong_small (by omega))); k_whole); intro dq dr h' hdq hdr F' N'; (try dsimp only)))
local macro_rules | `(tactic| walk_at "binaryOp FloorDiv int int") => `(tactic| (k_here; k_dflt (refine' r_fdiv_ii ?k0 ?k1 ?k2 ?_; (case k0 => rfl); (case k1 => decide); (case k2 => exact Or.inl (PyProof.noPylong_small (by omega))); k_whole); (try dsimp only)))
local macro_rules | `(tactic| walk_at "inplaceOp Add ref") => `(tactic| (k_here; (with_reducible show wpAny _ _ (inplaceOp Operator.Add (Value.ref _) (Value.ref _)) _ _ _); k_dflt (refine' iadd_in ?k1 ?k2 ?k3 ?k4 ?k5 ?k6 ?_; (case k1 => k_asm); (case k2 => k_asm); (case k3 => k_mem); (case k4 => k_mem); (case k5 => first | decide | size_fits); (case k6 => k_upd); k_whole); intro h' F' N'; (try k_sweep)))
local macro_rules | `(tactic| walk_at "binaryOp Add float int") => `(tactic| (k_here; k_dflt (refine' r_add_xi ?k0 ?_; (case k0 => constructor <;> omega); k_whole); (try dsimp only)))
local macro_rules | `(tactic| walk_at "binaryOp Add float int") => `(tactic| (k_here; k_dflt (refine' r_add_fi ?k0 ?k1 ?k2 ?_; (case k0 => first | with_reducible exact rfl | exact lit_half | exact lit_epoch | exact lit_greg | exact lit_m | exact lit_d); (case k1 => constructor <;> omega); (case k2 => constructor <;> omega); k_whole); (try dsimp only)))
local macro_rules | `(tactic| walk_at "binaryOp Add int float") => `(tactic| (k_here; k_dflt (refine' r_add_if ?k0 ?k1 ?k2 ?_; (case k0 => first | with_reducible exact rfl | exact lit_half | exact lit_epoch | exact lit_greg | exact lit_m | exact lit_d); (case k1 => constructor <;> omega); (case k2 => constructor <;> omega); k_whole); (try dsimp only)))
local macro_rules | `(tactic| walk_at "binaryOp Sub float float") => `(tactic| (k_here; k_dflt (refine' r_sub_ff ?k0 ?k1 ?k2 ?k3 ?k4 ?_; (case k0 => first | with_reducible exact rfl | exact lit_half | exact lit_epoch | exact lit_greg | exact lit_m | exact lit_d); (case k1 => first | with_reducible exact rfl | exact lit_half | exact lit_epoch | exact lit_greg | exact lit_m | exact lit_d); (case k2 => constructor <;> omega); (case k3 => constructor <;> omega); (case k4 => omega); k_whole); (try dsimp only)))
local macro_rules | `(tactic| walk_at "binaryOp Sub float int") => `(tactic| (k_here; k_dflt (refine' r_sub_fi ?k0 ?k1 ?k2 ?k3 ?_; (case k0 => first | with_reducible exact rfl | exact lit_half | exact lit_epoch | exact lit_greg | exact lit_m | exact lit_d); (case k1 => constructor <;> omega); (case k2 => constructor <;> omega); (case k3 => omega); k_whole); (try dsimp only)))
local macro_rules | `(tactic| walk_at "binaryOp Mult float int") => `(tactic| (k_here; k_dflt (refine' r_mul_fi ?k0 ?k1 ?k2 ?k3 ?k4 ?k5 ?_; (case k0 => first | with_reducible exact rfl | exact lit_half | exact lit_epoch | exact lit_greg | exact lit_m | exact lit_d); (case k1 => constructor <;> omega); (case k2 => constructor <;> omega); (case k3 => constructor <;> omega); (case k4 => omega); (case k5 => omega); k_whole); (try dsimp only)))
local macro_rules | `(tactic| walk_at "binaryOp Div float int") => `(tactic| (k_here; k_dflt (refine' r_div_fi ?k0 ?k1 ?k2 ?_; (case k0 => first | with_reducible exact rfl | exact lit_half | exact lit_epoch | exact lit_greg | exact lit_m | exact lit_d); (case k1 => constructor <;> omega); (case k2 => decide); k_whole); (try dsimp only)))
set_option hygiene false in
local macro_rules | `(tactic| walk_at "call builtin:math.floor") => `(tactic| (k_here; k_dflt (refine' r_floor_ffg ?k0 ?k1 ?k2 ?k3 ?_; (case k0 => rfl); (case k1 => constructor <;> omega); (case k2 => constructor <;> omega); (case k3 => omega); k_whole); (try dsimp only); intro fi9 fh9; (try dsimp only)))
set_option hygiene false in
local macro_rules | `(tactic| walk_at "call builtin:math.floor") => `(tactic| (k_here; k_dflt (refine' r_floor_hfg ?k0 ?k1 ?k2 ?_; (case k0 => rfl); (case k1 => first | with_reducible exact rfl | exact lit_half | exact lit_epoch | exact lit_greg | exact lit_m | exact lit_d); (case k2 => constructor <;> omega); k_whole); (try dsimp only); intro fi9 fh9; (try dsimp only)))
local macro_rules | `(tactic| walk_at "call builtin:math.floor") => `(tactic| (k_here; k_dflt (refine' r_floor_mon ?k0 ?k1 ?k2 ?k3 ?_; (case k0 => rfl); (case k1 => constructor <;> omega); (case k2 => constructor <;> omega); (case k3 => constructor <;> omega); k_whole); (try dsimp only)))
set_option hygiene false in
local macro_rules | `(tactic| walk_at "binaryOp Mod float int") => `(tactic| (k_here; k_dflt (refine' r_mod_fig ?k0 ?k1 ?k2 ?k3 ?_; (case k0 => first | with_reducible exact rfl | exact lit_half | exact lit_epoch | exact lit_greg | exact lit_m | exact lit_d); (case k1 => constructor <;> omega); (case k2 => constructor <;> omega); (case k3 => decide); k_whole); (try dsimp only); intro fi9 fh9; (try dsimp only)))
local macro_rules | `(tactic| walk_at "compareOp Lt float int") => `(tactic| (k_here; k_dflt (refine' r_lt_fi ?k0 ?k1 ?_; (case k0 => first | with_reducible exact rfl | exact lit_half | exact lit_epoch | exact lit_greg | exact lit_m | exact lit_d); (case k1 => constructor <;> omega); k_whole); (try dsimp only)))
local macro_rules | `(tactic| walk_at "compareOp Lt float float") => `(tactic| (k_here; k_dflt (refine' r_lt_ff ?k0 ?k1 ?k2 ?k3 ?_; (case k0 => first | with_reducible exact rfl | exact lit_half | exact lit_epoch | exact lit_greg | exact lit_m | exact lit_d); (case k1 => first | with_reducible exact rfl | exact lit_half | exact lit_epoch | exact lit_greg | exact lit_m | exact lit_d); (case k2 => constructor <;> omega); (case k3 => constructor <;> omega); k_whole); (try dsimp only)))
local macro_rules | `(tactic| walk_at "compareOp Gt float float") => `(tactic| (k_here; k_dflt (refine' r_gt_ff ?k0 ?k1 ?k2 ?k3 ?_; (case k0 => first | with_reducible exact rfl | exact lit_half | exact lit_epoch | exact lit_greg | exact lit_m | exact lit_d); (case k1 => first | with_reducible exact rfl | exact lit_half | exact lit_epoch | exact lit_greg | exact lit_m | exact lit_d); (case k2 => constructor <;> omega); (case k3 => constructor <;> omega); k_whole); (try dsimp only)))
local macro_rules | `(tactic| walk_at "compareOp GtE float float") => `(tactic| (k_here; k_dflt (refine' r_ge_ff ?k0 ?k1 ?k2 ?k3 ?_; (case k0 => first | with_reducible exact rfl | exact lit_half | exact lit_epoch | exact lit_greg | exact lit_m | exact lit_d); (case k1 => first | with_reducible exact rfl | exact lit_half | exact lit_epoch | exact lit_greg | exact lit_m | exact lit_d); (case k2 => constructor <;> omega); (case k3 => constructor <;> omega); k_whole); (try dsimp only)))
section
variable {w : World} {mean : ExcName → Option Value} {mg mb : Str → Option Value}
theorem c_isleap (y : Int) (t : Tok) : G01 w mean mg mb 1 50 [.int y t] True (fun _ => .bool (gl y)) := by
  unfold G01
  k_fill
  unfold Gives
  intro dp un gd cn cs a ccd cl outer A₀ base h₀ L m s Q E B F X T hk hroom hunits hret
  refine wpAny_call ?_
  k_dflt (refine' code_defG (news := []) ?k1 ?k2 ?k3 News.nil ?k5 ?kA ?kF ?kK ?k6 ?k7 ?k8 ?k9 ?kB ?_ ?c2 ?c3 ?c4 ?c5; (case kA => exact rfl); (case kF => exact rfl); (case kK => assumption); (case k1 => k_asm); (case k2 => k_asm); (case k3 => k_asm); (case k5 => k_asm); (case k6 => k_is); (case k7 => k_is); (case k8 => ktr_room); (case k9 => exact BindsTo.of_eq rfl); (case c5 => decide); (case kB => exact locs rfl); (case c2 => exact rfl); (case c3 => exact rfl); (case c4 => exact rfl); k_whole; intro g' L' h' FG' F' N' B' X' T' GG; (try dsimp only); (try k_lift B'); (try k_fold))
  k_steps
  all_goals (refine g_end (Q := Q) hret 0 (congrArg Value.bool ?_) GG (by with_reducible assumption) trivial)
  all_goals (unfold gl; first | (rw [Bool.eq_iff_iff]; simp only [decide_eq_true_eq, beq_iff_eq, bne_iff_ne, ne_eq]; omega) | (symm; apply decide_eq_true; omega) | (symm; apply decide_eq_false; omega))
theorem c_glong (y : Int) (t : Tok) : G01 w mean mg mb 1 190 [.int y t] True (fun _ => .bool (gl y)) := by
  unfold G01
  k_fill
  unfold Gives
  intro dp un gd cn cs a ccd cl outer A₀ base h₀ L m s Q E B F X T hk hroom hunits hret
  refine wpAny_call ?_
  k_dflt (refine' code_defG (news := []) ?k1 ?k2 ?k3 News.nil ?k5 ?kA ?kF ?kK ?k6 ?k7 ?k8 ?k9 ?kB ?_ ?c2 ?c3 ?c4 ?c5; (case kA => exact rfl); (case kF => exact rfl); (case kK => assumption); (case k1 => k_asm); (case k2 => k_asm); (case k3 => k_asm); (case k5 => k_asm); (case k6 => k_is); (case k7 => k_is); (case k8 => ktr_room); (case k9 => exact BindsTo.of_eq rfl); (case c5 => decide); (case kB => exact locs rfl); (case c2 => exact rfl); (case c3 => exact rfl); (case c4 => exact rfl); k_whole; intro g' L' h' FG' F' N' B' X' T' GG; (try dsimp only); (try k_lift B'); (try k_fold))
  k_steps
  all_goals (refine g_end (Q := Q) hret 0 (congrArg Value.bool ?_) GG (by with_reducible assumption) trivial)
  all_goals (unfold gl; first | (rw [Bool.eq_iff_iff]; simp only [decide_eq_true_eq, beq_iff_eq, bne_iff_ne, ne_eq]; omega) | (symm; apply decide_eq_true; omega) | (symm; apply decide_eq_false; omega))

end
end Mine
namespace Mine
open PySem PySem.Float64 PySem.W PyProof.Rows PySem.Calls
local macro_rules | `(tactic| k_room) => `(tactic| ktr_room)
local macro_rules | `(tactic| walk_at "binaryOp Mod int int") => `(tactic| (k_here; k_dflt (refine' r_mod_ii ?k1 ?_; (case k1 => decide); k_whole); (try dsimp only)))
local macro_rules | `(tactic| walk_at "binaryOp Div int int") => `(tactic| (k_here; k_dflt (refine' r_div_ii ?k1 ?k2 ?k3 ?_; (case k1 => constructor <;> omega); (case k2 => constructor <;> omega); (case k3 => omega); k_whole); (try dsimp only)))
local macro_rules | `(tactic| walk_at "call builtin:math.floor") => `(tactic| (k_here; k_dflt (refine' r_floor_ii ?k0 ?k1 ?k2 ?k3 ?_; (case k0 => rfl); (case k1 => constructor <;> omega); (case k2 => constructor <;> omega); (case k3 => omega); k_whole; (try dsimp only))))
local macro_rules | `(tactic| walk_at "binaryOp Add float int") => `(tactic| (k_here; k_dflt (refine' r_add_fi ?k0 ?k1 ?k2 ?_; (case k0 => first | with_reducible exact rfl | exact lit_epoch); (case k1 => constructor <;> omega); (case k2 => constructor <;> omega); k_whole); (try dsimp only)))
local macro_rules | `(tactic| walk_at "inplaceOp Add float int") => `(tactic| (k_here; k_dflt (refine' r_iadd_fi ?k0 ?k1 ?k2 ?_; (case k0 => with_reducible exact rfl); (case k1 => constructor <;> omega); (case k2 => constructor <;> omega); k_whole); (try dsimp only)))
local macro_rules | `(tactic| walk_at "binaryOp Add int float") => `(tactic| (k_here; k_dflt (refine' r_add_if ?k0 ?k1 ?k2 ?_; (case k0 => first | with_reducible exact rfl | exact lit_half); (case k1 => constructor <;> omega); (case k2 => constructor <;> omega); k_whole); (try dsimp only)))
local macro_rules | `(tactic| walk_at "binaryOp Sub float float") => `(tactic| (k_here; k_dflt (refine' r_sub_ff ?k0 ?k1 ?k2 ?k3 ?k4 ?_; (case k0 => with_reducible exact rfl); (case k1 => with_reducible exact rfl); (case k2 => constructor <;> omega); (case k3 => constructor <;> omega); (case k4 => omega); k_whole); (try dsimp only)))
local macro_rules | `(tactic| walk_at "binaryOp Mult int float") => `(tactic| (k_here; k_dflt (refine' r_mul_if ?k0 ?k1 ?k2 ?k3 ?k4 ?k5 ?_; (case k0 => with_reducible exact rfl); (case k1 => constructor <;> omega); (case k2 => constructor <;> omega); (case k3 => constructor <;> omega); (case k4 => omega); (case k5 => omega); k_whole); (try dsimp only)))
local macro_rules | `(tactic| walk_at "binaryOp Mod float int") => `(tactic| (k_here; k_dflt (refine' r_mod_fi ?k0 ?k1 ?k2 ?k3 ?_; (case k0 => with_reducible exact rfl); (case k1 => constructor <;> omega); (case k2 => constructor <;> omega); (case k3 => decide); k_whole); (try dsimp only)))
local macro_rules | `(tactic| walk_at "compareOp Eq float int") => `(tactic| (k_here; k_dflt (refine' r_eq_fi ?k0 ?k1 ?_; (case k0 => with_reducible exact rfl); (case k1 => constructor <;> omega); k_whole); (try dsimp only)))
local macro_rules | `(tactic| walk_at "compareOp NotEq float int") => `(tactic| (k_here; k_dflt (refine' r_ne_fi ?k0 ?k1 ?_; (case k0 => with_reducible exact rfl); (case k1 => constructor <;> omega); k_whole); (try dsimp only)))
local macro_rules | `(tactic| walk_at "call type:int") => `(tactic| (k_here; k_dflt (refine' r_int ?k0 ?k1 ?k2 ?_; (case k0 => with_reducible exact rfl); (case k1 => constructor <;> omega); (case k2 => omega); k_whole); (try dsimp only)))
set_option hygiene false in
local macro_rules | `(tactic| walk_at "call builtin:divmod") => `(tactic| (k_here; k_dflt (refine' r_divmod ?k1 ?k2 ?k3 ?_ ?kz; (case k1 => k_asm); (case k2 => k_asm); (case k3 => decide); (case kz => exact Or.inl (PyProof.noPylong_small (by omega))); k_whole); intro dq dr h' hdq hdr F' N'; (try dsimp only)))
local macro_rules | `(tactic| walk_at "binaryOp FloorDiv int int") => `(tactic| (k_here; k_dflt (refine' r_fdiv_ii ?k0 ?k1 ?k2 ?_; (case k0 => rfl); (case k1 => decide); (case k2 => exact Or.inl (PyProof.noPylong_small (by omega))); k_whole); (try dsimp only)))
local macro_rules | `(tactic| walk_at "inplaceOp Add ref") => `(tactic| (k_here; (with_reducible show wpAny _ _ (inplaceOp Operator.Add (Value.ref _) (Value.ref _)) _ _ _); k_dflt (refine' iadd_in ?k1 ?k2 ?k3 ?k4 ?k5 ?k6 ?_; (case k1 => k_asm); (case k2 => k_asm); (case k3 => k_mem); (case k4 => k_mem); (case k5 => first | decide | size_fits); (case k6 => k_upd); k_whole); intro h' F' N'; (try k_sweep)))
local macro_rules | `(tactic| walk_at "binaryOp Add float int") => `(tactic| (k_here; k_dflt (refine' r_add_xi ?k0 ?_; (case k0 => constructor <;> omega); k_whole); (try dsimp only)))
local macro_rules | `(tactic| walk_at "binaryOp Add float int") => `(tactic| (k_here; k_dflt (refine' r_add_fi ?k0 ?k1 ?k2 ?_; (case k0 => first | with_reducible exact rfl | exact lit_half | exact lit_epoch | exact lit_greg | exact lit_m | exact lit_d); (case k1 => constructor <;> omega); (case k2 => constructor <;> omega); k_whole); (try dsimp only)))
local macro_rules | `(tactic| walk_at "binaryOp Add int float") => `(tactic| (k_here; k_dflt (refine' r_add_if ?k0 ?k1 ?k2 ?_; (case k0 => first | with_reducible exact rfl | exact lit_half | exact lit_epoch | exact lit_greg | exact lit_m | exact lit_d); (case k1 => constructor <;> omega); (case k2 => constructor <;> omega); k_whole); (try dsimp only)))
local macro_rules | `(tactic| walk_at "binaryOp Sub float float") => `(tactic| (k_here; k_dflt (refine' r_sub_ff ?k0 ?k1 ?k2 ?k3 ?k4 ?_; (case k0 => first | with_reducible exact rfl | exact lit_half | exact lit_epoch | exact lit_greg | exact lit_m | exact lit_d); (case k1 => first | with_reducible exact rfl | exact lit_half | exact lit_epoch | exact lit_greg | exact lit_m | exact lit_d); (case k2 => constructor <;> omega); (case k3 => constructor <;> omega); (case k4 => omega); k_whole); (try dsimp only)))
local macro_rules | `(tactic| walk_at "binaryOp Sub float int") => `(tactic| (k_here; k_dflt (refine' r_sub_fi ?k0 ?k1 ?k2 ?k3 ?_; (case k0 => first | with_reducible exact rfl | exact lit_half | exact lit_epoch | exact lit_greg | exact lit_m | exact lit_d); (case k1 => constructor <;> omega); (case k2 => constructor <;> omega); (case k3 => omega); k_whole); (try dsimp only)))
local macro_rules | `(tactic| walk_at "binaryOp Mult float int") => `(tactic| (k_here; k_dflt (refine' r_mul_fi ?k0 ?k1 ?k2 ?k3 ?k4 ?k5 ?_; (case k0 => first | with_reducible exact rfl | exact lit_half | exact lit_epoch | exact lit_greg | exact lit_m | exact lit_d); (case k1 => constructor <;> omega); (case k2 => constructor <;> omega); (case k3 => constructor <;> omega); (case k4 => omega); (case k5 => omega); k_whole); (try dsimp only)))
local macro_rules | `(tactic| walk_at "binaryOp Div float int") => `(tactic| (k_here; k_dflt (refine' r_div_fi ?k0 ?k1 ?k2 ?_; (case k0 => first | with_reducible exact rfl | exact lit_half | exact lit_epoch | exact lit_greg | exact lit_m | exact lit_d); (case k1 => constructor <;> omega); (case k2 => decide); k_whole); (try dsimp only)))
set_option hygiene false in
local macro_rules | `(tactic| walk_at "call builtin:math.floor") => `(tactic| (k_here; k_dflt (refine' r_floor_ffg ?k0 ?k1 ?k2 ?k3 ?_; (case k0 => rfl); (case k1 => constructor <;> omega); (case k2 => constructor <;> omega); (case k3 => omega); k_whole); (try dsimp only); intro fi9 fh9; (try dsimp only)))
set_option hygiene false in
local macro_rules | `(tactic| walk_at "call builtin:math.floor") => `(tactic| (k_here; k_dflt (refine' r_floor_hfg ?k0 ?k1 ?k2 ?_; (case k0 => rfl); (case k1 => first | with_reducible exact rfl | exact lit_half | exact lit_epoch | exact lit_greg | exact lit_m | exact lit_d); (case k2 => constructor <;> omega); k_whole); (try dsimp only); intro fi9 fh9; (try dsimp only)))
local macro_rules | `(tactic| walk_at "call builtin:math.floor") => `(tactic| (k_here; k_dflt (refine' r_floor_mon ?k0 ?k1 ?k2 ?k3 ?_; (case k0 => rfl); (case k1 => constructor <;> omega); (case k2 => constructor <;> omega); (case k3 => constructor <;> omega); k_whole); (try dsimp only)))
set_option hygiene false in
local macro_rules | `(tactic| walk_at "binaryOp Mod float int") => `(tactic| (k_here; k_dflt (refine' r_mod_fig ?k0 ?k1 ?k2 ?k3 ?_; (case k0 => first | with_reducible exact rfl | exact lit_half | exact lit_epoch | exact lit_greg | exact lit_m | exact lit_d); (case k1 => constructor <;> omega); (case k2 => constructor <;> omega); (case k3 => decide); k_whole); (try dsimp only); intro fi9 fh9; (try dsimp only)))
local macro_rules | `(tactic| walk_at "compareOp Lt float int") => `(tactic| (k_here; k_dflt (refine' r_lt_fi ?k0 ?k1 ?_; (case k0 => first | with_reducible exact rfl | exact lit_half | exact lit_epoch | exact lit_greg | exact lit_m | exact lit_d); (case k1 => constructor <;> omega); k_whole); (try dsimp only)))
local macro_rules | `(tactic| walk_at "compareOp Lt float float") => `(tactic| (k_here; k_dflt (refine' r_lt_ff ?k0 ?k1 ?k2 ?k3 ?_; (case k0 => first | with_reducible exact rfl | exact lit_half | exact lit_epoch | exact lit_greg | exact lit_m | exact lit_d); (case k1 => first | with_reducible exact rfl | exact lit_half | exact lit_epoch | exact lit_greg | exact lit_m | exact lit_d); (case k2 => constructor <;> omega); (case k3 => constructor <;> omega); k_whole); (try dsimp only)))
local macro_rules | `(tactic| walk_at "compareOp Gt float float") => `(tactic| (k_here; k_dflt (refine' r_gt_ff ?k0 ?k1 ?k2 ?k3 ?_; (case k0 => first | with_reducible exact rfl | exact lit_half | exact lit_epoch | exact lit_greg | exact lit_m | exact lit_d); (case k1 => first | with_reducible exact rfl | exact lit_half | exact lit_epoch | exact lit_greg | exact lit_m | exact lit_d); (case k2 => constructor <;> omega); (case k3 => constructor <;> omega); k_whole); (try dsimp only)))
local macro_rules | `(tactic| walk_at "compareOp GtE float float") => `(tactic| (k_here; k_dflt (refine' r_ge_ff ?k0 ?k1 ?k2 ?k3 ?_; (case k0 => first | with_reducible exact rfl | exact lit_half | exact lit_epoch | exact lit_greg | exact lit_m | exact lit_d); (case k1 => first | with_reducible exact rfl | exact lit_half | exact lit_epoch | exact lit_greg | exact lit_m | exact lit_d); (case k2 => constructor <;> omega); (case k3 => constructor <;> omega); k_whole); (try dsimp only)))
section
variable {w : World} {mean : ExcName → Option Value} {mg mb : Str → Option Value}
theorem c_isleap_v (v : Bool) (y : Int) (t : Tok) (h : gl y = v) : G01 w mean mg mb 1 50 [.int y t] True (fun _ => .bool v) := by
  subst h; exact c_isleap y t
theorem gsz_t {m d : Int} (h : d ≤ gszl true m) : (m = 2 → d ≤ 29) ∧ ((m = 4 ∨ m = 6 ∨ m = 9 ∨ m = 11) → d ≤ 30) ∧ d ≤ 31 := by
  unfold gszl at h; simp at h; (repeat' split at h) <;> omega
theorem gsz_f {m d : Int} (h : d ≤ gszl false m) : (m = 2 → d ≤ 28) ∧ ((m = 4 ∨ m = 6 ∨ m = 9 ∨ m = 11) → d ≤ 30) ∧ d ≤ 31 := by
  unfold gszl at h; simp at h; (repeat' split at h) <;> omega
theorem any4_t {d : Int} (h : (([4, 6, 9, 11] : List Int).any fun x => x == d) = true) : d = 4 ∨ d = 6 ∨ d = 9 ∨ d = 11 := by simp at h; omega
theorem any4_f {d : Int} (h : (([4, 6, 9, 11] : List Int).any fun x => x == d) = false) : d ≠ 4 ∧ d ≠ 6 ∧ d ≠ 9 ∧ d ≠ 11 := by simp at h; omega
local macro_rules | `(tactic| walk_at "call ref") => `(tactic| (k_here; (with_reducible show wpAny _ _ (PySem.call (Value.ref 50) _ _) _ _ _); k_dflt (refine' Gives.use (c_isleap_v _ _ _ ?kp) ?k1 ?k2 ?k3 ?k4 ?k5 ?kK ?kd ?ku ?_; (case kp => with_reducible assumption); (case k1 => k_asm); (case k2 => k_asm); (case k3 => k_asm); (case k4 => k_asm); (case k5 => k_asm); (case kK => first | exact rfl | assumption); (case kd => ktr_room); (case ku => ktr_units); k_whole; intro t9 h9 tk9 F9 N9 S9 P9; (try (have cE9 := InElt.then (by with_reducible assumption) S9)); (try clear S9); (try k_sweep); (try dsimp only); (try k_fold))))
local macro_rules | `(tactic| walk_at "compareOp In int ref") => `(tactic| (k_here; (with_reducible show wpAny _ _ (compareOp _ _ (Value.ref 43)) _ _ _); k_dflt (refine' in_K [4, 6, 9, 11] ?k1 ?k2 ?k3 ?k4 ?k5 ?k6 ?_; (case k1 => k_asm); (case k2 => k_asm); (case k3 => exact rfl); (case k4 => exact rfl); (case k5 => exact rfl); (case k6 => repeat constructor); k_whole); (try dsimp only)))
theorem c_legal (y m d : Int) (t t2 t3 : Tok) (hm : 1 ≤ m ∧ m ≤ 12) (hd : 1 ≤ d ∧ d ≤ gszl (gl y) m) : G01 w mean mg mb 2 57 [.int y t, .int m t2, .int d t3] True (fun _ => .bool true) := by
  unfold G01
  k_fill
  unfold Gives
  intro dp un gd cn cs a ccd cl outer A₀ base h₀ L m s Q E B F X T hk hroom hunits hret
  (cases hgl : gl y <;> rw [hgl] at hd); (have hz := gsz_f hd.2); rotate_left; (have hz := gsz_t hd.2)
  all_goals refine wpAny_call ?_
  all_goals k_dflt (refine' code_defG (news := []) ?k1 ?k2 ?k3 News.nil ?k5 ?kA ?kF ?kK ?k6 ?k7 ?k8 ?k9 ?kB ?_ ?c2 ?c3 ?c4 ?c5; (case kA => exact rfl); (case kF => exact rfl); (case kK => assumption); (case k1 => k_asm); (case k2 => k_asm); (case k3 => k_asm); (case k5 => k_asm); (case k6 => k_is); (case k7 => k_is); (case k8 => ktr_room); (case k9 => exact BindsTo.of_eq rfl); (case c5 => decide); (case kB => exact locs rfl); (case c2 => exact rfl); (case c3 => exact rfl); (case c4 => exact rfl); k_whole; intro g' L' h' FG' F' N' B' X' T' GG; (try dsimp only); (try k_lift B'); (try k_fold))
  all_goals k_steps
  all_goals (first | exact g_end (Q := Q) hret 0 rfl GG (by with_reducible assumption) trivial | skip)
  all_goals (exfalso; have h4 := any4_t (by with_reducible assumption); omega)

local macro_rules | `(tactic| walk_at "call ref") => `(tactic| (k_here; (with_reducible show wpAny _ _ (PySem.call (Value.ref 57) _ _) _ _ _); k_dflt (refine' Gives.use (c_legal _ _ _ _ _ _ ?kp ?kq) ?k1 ?k2 ?k3 ?k4 ?k5 ?kK ?kd ?ku ?_; (case kp => (with_reducible assumption)); (case kq => (with_reducible assumption)); (case k1 => k_asm); (case k2 => k_asm); (case k3 => k_asm); (case k4 => k_asm); (case k5 => k_asm); (case kK => first | exact rfl | assumption); (case kd => ktr_room); (case ku => ktr_units); k_whole; intro t9 h9 tk9 F9 N9 S9 P9; (try (have cE9 := InElt.then (by with_reducible assumption) S9)); (try clear S9); (try k_sweep); (try dsimp only); (try k_fold))))
theorem gla_in (l : Bool) (m : Int) : -2 ≤ gla l m ∧ gla l m ≤ 0 := by unfold gla; (repeat' split) <;> omega
theorem gla_0 {l : Bool} {m : Int} (h : m ≤ 2) : (0 : Int) = gla l m := by unfold gla; rw [if_pos h]
theorem gla_1 {l : Bool} {m : Int} (h : ¬ m ≤ 2) (g : l = true) : (-1 : Int) = gla l m := by unfold gla; rw [if_neg h, if_pos g]
theorem gla_2 {l : Bool} {m : Int} (h : ¬ m ≤ 2) (g : l = false) : (-2 : Int) = gla l m := by unfold gla; rw [if_neg h, if_neg (by rw [g]; decide)]
local macro_rules | `(tactic| walk_at "call ref") => `(tactic| (k_here; (with_reducible show wpAny _ _ (PySem.call (Value.ref 50) _ _) _ _ _); k_dflt (refine' Gives.use (c_isleap _ _) ?k1 ?k2 ?k3 ?k4 ?k5 ?kK ?kd ?ku ?_; (case k1 => k_asm); (case k2 => k_asm); (case k3 => k_asm); (case k4 => k_asm); (case k5 => k_asm); (case kK => first | exact rfl | assumption); (case kd => ktr_room); (case ku => ktr_units); k_whole; intro t9 h9 tk9 F9 N9 S9 P9; (try (have cE9 := InElt.then (by with_reducible assumption) S9)); (try clear S9); (try k_sweep); (try dsimp only); (try k_fold))))
set_option hygiene false in
local macro_rules | `(tactic| walk_at "exec If") => `(tactic| (k_here; (fail_if_success (have m9 : MMark := by with_reducible assumption)); (with_reducible show wpAny _ _ (exec (Stmt.If (Expr.Compare _ [CmpOp.LtE] _ _) _ _ _) _) _ _ _); k_dflt (refine' smeet_at (Str.ofString "leap_adj") (Str.ofString "leap_adj") (fun z => z = gla (gl y) mo) ?k1 ?k2 ?_ ?_; (case k1 => k_asm); (case k2 => k_asm)); rotate_left; (intro c9 tc9 u9 h9 tk9 P9 F9 N9; (try subst P9); (try k_sweep); (try dsimp only); (try k_fold)); rotate_left; (have mm9 := mmark); (try k_fold)))
theorem c_gjd (y mo d : Int) (t t2 t3 : Tok) (hy : -4500 ≤ y ∧ y ≤ 120000000) (hm : 1 ≤ mo ∧ mo ≤ 12) (hd : 1 ≤ d ∧ d ≤ gszl (gl y) mo) : G01 w mean mg mb 3 64 [.int y t, .int mo t2, .int d t3] (0 ≤ gjd y mo d ∧ gjd y mo d ≤ 100000000000) (fun t => .float (hf (gjd y mo d)) t) := by
  have hd9 : d ≤ 31 := by
    have h := hd.2
    cases hv : gl y <;> rw [hv] at h
    · exact (gsz_f h).2.2
    · exact (gsz_t h).2.2
  have hla := gla_in (gl y) mo
  unfold G01
  k_fill
  unfold Gives
  intro dp un gd cn cs a ccd cl outer A₀ base h₀ L m s Q E B F X T hk hroom hunits hret
  refine wpAny_call ?_
  k_dflt (refine' code_defG (news := []) ?k1 ?k2 ?k3 News.nil ?k5 ?kA ?kF ?kK ?k6 ?k7 ?k8 ?k9 ?kB ?_ ?c2 ?c3 ?c4 ?c5; (case kA => exact rfl); (case kF => exact rfl); (case kK => assumption); (case k1 => k_asm); (case k2 => k_asm); (case k3 => k_asm); (case k5 => k_asm); (case k6 => k_is); (case k7 => k_is); (case k8 => ktr_room); (case k9 => exact BindsTo.of_eq rfl); (case c5 => decide); (case kB => exact locs rfl); (case c2 => exact rfl); (case c3 => exact rfl); (case c4 => exact rfl); k_whole; intro g' L' h' FG' F' N' B' X' T' GG; (try dsimp only); (try k_lift B'); (try k_fold))
  k_steps
  all_goals (first
    | (refine SMeet.intro _ (by k_asm) (by k_asm) (fun p hp => hp) ⟨_, rfl⟩ (by first | exact gla_0 (by with_reducible assumption) | exact gla_1 (by with_reducible assumption) (by with_reducible assumption) | exact gla_2 (by with_reducible assumption) (by with_reducible assumption)) ?_; intro z h1 h2; simp only [h1, if_false])
    | (refine g_end (Q := Q) hret _ (congrArg (fun z => Value.float (hf z) _) ?_) GG (by with_reducible assumption) ?_; (all_goals (unfold gjd gJ gcum; omega))))
end
end Mine
namespace Mine
open PySem PySem.Float64 PySem.W PyProof.Rows PySem.Calls
local macro_rules | `(tactic| k_room) => `(tactic| ktr_room)
local macro_rules | `(tactic| walk_at "binaryOp Mod int int") => `(tactic| (k_here; k_dflt (refine' r_mod_ii ?k1 ?_; (case k1 => decide); k_whole); (try dsimp only)))
local macro_rules | `(tactic| walk_at "binaryOp Div int int") => `(tactic| (k_here; k_dflt (refine' r_div_ii ?k1 ?k2 ?k3 ?_; (case k1 => constructor <;> omega); (case k2 => constructor <;> omega); (case k3 => omega); k_whole); (try dsimp only)))
local macro_rules | `(tactic| walk_at "call builtin:math.floor") => `(tactic| (k_here; k_dflt (refine' r_floor_ii ?k0 ?k1 ?k2 ?k3 ?_; (case k0 => rfl); (case k1 => constructor <;> omega); (case k2 => constructor <;> omega); (case k3 => omega); k_whole; (try dsimp only))))
local macro_rules | `(tactic| walk_at "binaryOp Add float int") => `(tactic| (k_here; k_dflt (refine' r_add_fi ?k0 ?k1 ?k2 ?_; (case k0 => first | with_reducible exact rfl | exact lit_epoch); (case k1 => constructor <;> omega); (case k2 => constructor <;> omega); k_whole); (try dsimp only)))
local macro_rules | `(tactic| walk_at "inplaceOp Add float int") => `(tactic| (k_here; k_dflt (refine' r_iadd_fi ?k0 ?k1 ?k2 ?_; (case k0 => with_reducible exact rfl); (case k1 => constructor <;> omega); (case k2 => constructor <;> omega); k_whole); (try dsimp only)))
local macro_rules | `(tactic| walk_at "binaryOp Add int float") => `(tactic| (k_here; k_dflt (refine' r_add_if ?k0 ?k1 ?k2 ?_; (case k0 => first | with_reducible exact rfl | exact lit_half); (case k1 => constructor <;> omega); (case k2 => constructor <;> omega); k_whole); (try dsimp only)))
local macro_rules | `(tactic| walk_at "binaryOp Sub float float") => `(tactic| (k_here; k_dflt (refine' r_sub_ff ?k0 ?k1 ?k2 ?k3 ?k4 ?_; (case k0 => with_reducible exact rfl); (case k1 => with_reducible exact rfl); (case k2 => constructor <;> omega); (case k3 => constructor <;> omega); (case k4 => omega); k_whole); (try dsimp only)))
local macro_rules | `(tactic| walk_at "binaryOp Mult int float") => `(tactic| (k_here; k_dflt (refine' r_mul_if ?k0 ?k1 ?k2 ?k3 ?k4 ?k5 ?_; (case k0 => with_reducible exact rfl); (case k1 => constructor <;> omega); (case k2 => constructor <;> omega); (case k3 => constructor <;> omega); (case k4 => omega); (case k5 => omega); k_whole); (try dsimp only)))
local macro_rules | `(tactic| walk_at "binaryOp Mod float int") => `(tactic| (k_here; k_dflt (refine' r_mod_fi ?k0 ?k1 ?k2 ?k3 ?_; (case k0 => with_reducible exact rfl); (case k1 => constructor <;> omega); (case k2 => constructor <;> omega); (case k3 => decide); k_whole); (try dsimp only)))
local macro_rules | `(tactic| walk_at "compareOp Eq float int") => `(tactic| (k_here; k_dflt (refine' r_eq_fi ?k0 ?k1 ?_; (case k0 => with_reducible exact rfl); (case k1 => constructor <;> omega); k_whole); (try dsimp only)))
local macro_rules | `(tactic| walk_at "compareOp NotEq float int") => `(tactic| (k_here; k_dflt (refine' r_ne_fi ?k0 ?k1 ?_; (case k0 => with_reducible exact rfl); (case k1 => constructor <;> omega); k_whole); (try dsimp only)))
local macro_rules | `(tactic| walk_at "call type:int") => `(tactic| (k_here; k_dflt (refine' r_int ?k0 ?k1 ?k2 ?_; (case k0 => with_reducible exact rfl); (case k1 => constructor <;> omega); (case k2 => omega); k_whole); (try dsimp only)))
set_option hygiene false in
local macro_rules | `(tactic| walk_at "call builtin:divmod") => `(tactic| (k_here; k_dflt (refine' r_divmod ?k1 ?k2 ?k3 ?_ ?kz; (case k1 => k_asm); (case k2 => k_asm); (case k3 => decide); (case kz => exact Or.inl (PyProof.noPylong_small (by omega))); k_whole); intro dq dr h' hdq hdr F' N'; (try dsimp only)))
local macro_rules | `(tactic| walk_at "binaryOp FloorDiv int int") => `(tactic| (k_here; k_dflt (refine' r_fdiv_ii ?k0 ?k1 ?k2 ?_; (case k0 => rfl); (case k1 => decide); (case k2 => exact Or.inl (PyProof.noPylong_small (by omega))); k_whole); (try dsimp only)))
local macro_rules | `(tactic| walk_at "inplaceOp Add ref") => `(tactic| (k_here; (with_reducible show wpAny _ _ (inplaceOp Operator.Add (Value.ref _) (Value.ref _)) _ _ _); k_dflt (refine' iadd_in ?k1 ?k2 ?k3 ?k4 ?k5 ?k6 ?_; (case k1 => k_asm); (case k2 => k_asm); (case k3 => k_mem); (case k4 => k_mem); (case k5 => first | decide | size_fits); (case k6 => k_upd); k_whole); intro h' F' N'; (try k_sweep)))
local macro_rules | `(tactic| walk_at "binaryOp Add float int") => `(tactic| (k_here; k_dflt (refine' r_add_xi ?k0 ?_; (case k0 => constructor <;> omega); k_whole); (try dsimp only)))
local macro_rules | `(tactic| walk_at "binaryOp Add float int") => `(tactic| (k_here; k_dflt (refine' r_add_fi ?k0 ?k1 ?k2 ?_; (case k0 => first | with_reducible exact rfl | exact lit_half | exact lit_epoch | exact lit_greg | exact lit_m | exact lit_d); (case k1 => constructor <;> omega); (case k2 => constructor <;> omega); k_whole); (try dsimp only)))
local macro_rules | `(tactic| walk_at "binaryOp Add int float") => `(tactic| (k_here; k_dflt (refine' r_add_if ?k0 ?k1 ?k2 ?_; (case k0 => first | with_reducible exact rfl | exact lit_half | exact lit_epoch | exact lit_greg | exact lit_m | exact lit_d); (case k1 => constructor <;> omega); (case k2 => constructor <;> omega); k_whole); (try dsimp only)))
local macro_rules | `(tactic| walk_at "binaryOp Sub float float") => `(tactic| (k_here; k_dflt (refine' r_sub_ff ?k0 ?k1 ?k2 ?k3 ?k4 ?_; (case k0 => first | with_reducible exact rfl | exact lit_half | exact lit_epoch | exact lit_greg | exact lit_m | exact lit_d); (case k1 => first | with_reducible exact rfl | exact lit_half | exact lit_epoch | exact lit_greg | exact lit_m | exact lit_d); (case k2 => constructor <;> omega); (case k3 => constructor <;> omega); (case k4 => omega); k_whole); (try dsimp only)))
local macro_rules | `(tactic| walk_at "binaryOp Sub float int") => `(tactic| (k_here; k_dflt (refine' r_sub_fi ?k0 ?k1 ?k2 ?k3 ?_; (case k0 => first | with_reducible exact rfl | exact lit_half | exact lit_epoch | exact lit_greg | exact lit_m | exact lit_d); (case k1 => constructor <;> omega); (case k2 => constructor <;> omega); (case k3 => omega); k_whole); (try dsimp only)))
local macro_rules | `(tactic| walk_at "binaryOp Mult float int") => `(tactic| (k_here; k_dflt (refine' r_mul_fi ?k0 ?k1 ?k2 ?k3 ?k4 ?k5 ?_; (case k0 => first | with_reducible exact rfl | exact lit_half | exact lit_epoch | exact lit_greg | exact lit_m | exact lit_d); (case k1 => constructor <;> omega); (case k2 => constructor <;> omega); (case k3 => constructor <;> omega); (case k4 => omega); (case k5 => omega); k_whole); (try dsimp only)))
local macro_rules | `(tactic| walk_at "binaryOp Div float int") => `(tactic| (k_here; k_dflt (refine' r_div_fi ?k0 ?k1 ?k2 ?_; (case k0 => first | with_reducible exact rfl | exact lit_half | exact lit_epoch | exact lit_greg | exact lit_m | exact lit_d); (case k1 => constructor <;> omega); (case k2 => decide); k_whole); (try dsimp only)))
set_option hygiene false in
local macro_rules | `(tactic| walk_at "call builtin:math.floor") => `(tactic| (k_here; k_dflt (refine' r_floor_ffg ?k0 ?k1 ?k2 ?k3 ?_; (case k0 => rfl); (case k1 => constructor <;> omega); (case k2 => constructor <;> omega); (case k3 => omega); k_whole); (try dsimp only); intro fi9 fh9; (try dsimp only)))
set_option hygiene false in
local macro_rules | `(tactic| walk_at "call builtin:math.floor") => `(tactic| (k_here; k_dflt (refine' r_floor_hfg ?k0 ?k1 ?k2 ?_; (case k0 => rfl); (case k1 => first | with_reducible exact rfl | exact lit_half | exact lit_epoch | exact lit_greg | exact lit_m | exact lit_d); (case k2 => constructor <;> omega); k_whole); (try dsimp only); intro fi9 fh9; (try dsimp only)))
local macro_rules | `(tactic| walk_at "call builtin:math.floor") => `(tactic| (k_here; k_dflt (refine' r_floor_mon ?k0 ?k1 ?k2 ?k3 ?_; (case k0 => rfl); (case k1 => constructor <;> omega); (case k2 => constructor <;> omega); (case k3 => constructor <;> omega); k_whole); (try dsimp only)))
set_option hygiene false in
local macro_rules | `(tactic| walk_at "binaryOp Mod float int") => `(tactic| (k_here; k_dflt (refine' r_mod_fig ?k0 ?k1 ?k2 ?k3 ?_; (case k0 => first | with_reducible exact rfl | exact lit_half | exact lit_epoch | exact lit_greg | exact lit_m | exact lit_d); (case k1 => constructor <;> omega); (case k2 => constructor <;> omega); (case k3 => decide); k_whole); (try dsimp only); intro fi9 fh9; (try dsimp only)))
local macro_rules | `(tactic| walk_at "compareOp Lt float int") => `(tactic| (k_here; k_dflt (refine' r_lt_fi ?k0 ?k1 ?_; (case k0 => first | with_reducible exact rfl | exact lit_half | exact lit_epoch | exact lit_greg | exact lit_m | exact lit_d); (case k1 => constructor <;> omega); k_whole); (try dsimp only)))
local macro_rules | `(tactic| walk_at "compareOp Lt float float") => `(tactic| (k_here; k_dflt (refine' r_lt_ff ?k0 ?k1 ?k2 ?k3 ?_; (case k0 => first | with_reducible exact rfl | exact lit_half | exact lit_epoch | exact lit_greg | exact lit_m | exact lit_d); (case k1 => first | with_reducible exact rfl | exact lit_half | exact lit_epoch | exact lit_greg | exact lit_m | exact lit_d); (case k2 => constructor <;> omega); (case k3 => constructor <;> omega); k_whole); (try dsimp only)))
local macro_rules | `(tactic| walk_at "compareOp Gt float float") => `(tactic| (k_here; k_dflt (refine' r_gt_ff ?k0 ?k1 ?k2 ?k3 ?_; (case k0 => first | with_reducible exact rfl | exact lit_half | exact lit_epoch | exact lit_greg | exact lit_m | exact lit_d); (case k1 => first | with_reducible exact rfl | exact lit_half | exact lit_epoch | exact lit_greg | exact lit_m | exact lit_d); (case k2 => constructor <;> omega); (case k3 => constructor <;> omega); k_whole); (try dsimp only)))
local macro_rules | `(tactic| walk_at "compareOp GtE float float") => `(tactic| (k_here; k_dflt (refine' r_ge_ff ?k0 ?k1 ?k2 ?k3 ?_; (case k0 => first | with_reducible exact rfl | exact lit_half | exact lit_epoch | exact lit_greg | exact lit_m | exact lit_d); (case k1 => first | with_reducible exact rfl | exact lit_half | exact lit_epoch | exact lit_greg | exact lit_m | exact lit_d); (case k2 => constructor <;> omega); (case k3 => constructor <;> omega); k_whole); (try dsimp only)))
section
variable {w : World} {mean : ExcName → Option Value} {mg mb : Str → Option Value}
theorem c_isleap_y {n : Int} (y : Int) (t : Tok) (h : y = gY n) : G01 w mean mg mb 1 50 [.int y t] True (fun _ => .bool (gl (gY n))) := by
  subst h; exact c_isleap _ t
theorem c_gjd0 {n : Int} (y : Int) (t t2 t3 : Tok) (hy : y = gY n) (hn : 300000 ≤ n ∧ n ≤ 37000000000) : G01 w mean mg mb 3 64 [.int y t, .int 1 t2, .int 1 t3] True (fun t => .float (hf (2 * (n - 1) + 1 - 2 * gyd n)) t) := by
  subst hy
  rw [← gjd_1]
  have h := gY_in n hn
  exact fun dp un gd cn cs a ccd cl outer A₀ base h₀ L m s Q E B F X T hk hr hu hret => c_gjd (gY n) 1 1 t t2 t3 (by omega) (by decide) (by unfold gszl; simp) dp un gd cn cs a ccd cl outer A₀ base h₀ L m s Q E B F X T hk hr hu fun t h' tk' st _ => hret t h' tk' st trivial
theorem c_gjd1 {n : Int} (y m : Int) (t t2 t3 : Tok) (hy : y = gY n) (hm : m = gM n) (hn : 300000 ≤ n ∧ n ≤ 37000000000) : G01 w mean mg mb 3 64 [.int y t, .int m t2, .int 1 t3] True (fun t => .float (hf (2 * (n - 1) + 1 - 2 * (gD n - 1))) t) := by
  subst hy; subst hm
  rw [← gjd_m]
  have h := gY_in n hn
  have g := gM_in n
  exact fun dp un gd cn cs a ccd cl outer A₀ base h₀ L m s Q E B F X T hk hr hu hret => c_gjd (gY n) (gM n) 1 t t2 t3 (by omega) ⟨g.1, g.2.1⟩ (by omega) dp un gd cn cs a ccd cl outer A₀ base h₀ L m s Q E B F X T hk hr hu fun t h' tk' st _ => hret t h' tk' st trivial
local macro_rules | `(tactic| walk_at "call ref") => `(tactic| (k_here; (with_reducible show wpAny _ _ (PySem.call (Value.ref 50) _ _) _ _ _); k_dflt (refine' Gives.use (c_isleap_y _ _ ?kp) ?k1 ?k2 ?k3 ?k4 ?k5 ?kK ?kd ?ku ?_; (case kp => exact rfl); (case k1 => k_asm); (case k2 => k_asm); (case k3 => k_asm); (case k4 => k_asm); (case k5 => k_asm); (case kK => first | exact rfl | assumption); (case kd => ktr_room); (case ku => ktr_units); k_whole; intro t9 h9 tk9 F9 N9 S9 P9; (try (have cE9 := InElt.then (by with_reducible assumption) S9)); (try clear S9); (try k_sweep); (try dsimp only); (try k_fold))))
local macro_rules | `(tactic| walk_at "call ref") => `(tactic| (k_here; (with_reducible show wpAny _ _ (PySem.call (Value.ref 64) _ _) _ _ _); k_dflt (refine' Gives.use (c_gjd0 _ _ _ _ ?kp ?kq) ?k1 ?k2 ?k3 ?k4 ?k5 ?kK ?kd ?ku ?_; (case kp => exact rfl); (case kq => with_reducible assumption); (case k1 => k_asm); (case k2 => k_asm); (case k3 => k_asm); (case k4 => k_asm); (case k5 => k_asm); (case kK => first | exact rfl | assumption); (case kd => ktr_room); (case ku => ktr_units); k_whole; intro t9 h9 tk9 F9 N9 S9 P9; (try (have cE9 := InElt.then (by with_reducible assumption) S9)); (try clear S9); (try k_sweep); (try dsimp only); (try k_fold))))
local macro_rules | `(tactic| walk_at "call ref") => `(tactic| (k_here; (with_reducible show wpAny _ _ (PySem.call (Value.ref 64) _ _) _ _ _); k_dflt (refine' Gives.use (c_gjd1 _ _ _ _ _ ?kp ?kr ?kq) ?k1 ?k2 ?k3 ?k4 ?k5 ?kK ?kd ?ku ?_; (case kp => exact rfl); (case kr => (first | exact mon_t rfl (by with_reducible assumption) (by with_reducible assumption) (by with_reducible assumption) (by with_reducible assumption) | exact mon_f1 rfl (by with_reducible assumption) (by with_reducible assumption) (by with_reducible assumption) (by with_reducible assumption) (by with_reducible assumption) | exact mon_f2 rfl (by with_reducible assumption) (by with_reducible assumption) (by with_reducible assumption) (by with_reducible assumption) (by with_reducible assumption))); (case kq => with_reducible assumption); (case k1 => k_asm); (case k2 => k_asm); (case k3 => k_asm); (case k4 => k_asm); (case k5 => k_asm); (case kK => first | exact rfl | assumption); (case kd => ktr_room); (case ku => ktr_units); k_whole; intro t9 h9 tk9 F9 N9 S9 P9; (try (have cE9 := InElt.then (by with_reducible assumption) S9)); (try clear S9); (try k_sweep); (try dsimp only); (try k_fold))))
set_option hygiene false in
local macro_rules | `(tactic| walk_at "exec If") => `(tactic| (k_here; (fail_if_success (have m9 : MMark := by with_reducible assumption)); (with_reducible show wpAny _ _ (exec (Stmt.If (Expr.UnaryOp _ _ _) _ _ _) _) _ _ _); k_dflt (refine' smeet_at (Str.ofString "year") (Str.ofString "year") (fun z => z = gY n) ?k1 ?k2 ?_ ?_; (case k1 => k_asm); (case k2 => k_asm)); rotate_left; (intro c9 tc9 u9 h9 tk9 P9 F9 N9; (try subst P9); (try k_sweep); (try dsimp only); (try k_fold)); rotate_left; (have mm9 := mmark); (try k_fold)))
theorem c_gfj (n v : Int) (t : Tok) (hv : v = 2 * (n - 1) + 1) (hn : 300000 ≤ n ∧ n ≤ 37000000000) : GivesT PySem.Challenge.rw_ad5025_01.row.prog w (hd01.heap_39 w.params) hd01.view_39 (looseW hd01.view_39 [Str.ofString "to_jd_gregorian", Str.ofString "from_jd_gregorian", Str.ofString "to_jd_hebrew", Str.ofString "from_jd_hebrew"]) mean mg mb 4 71 [.float (hf v) t] (fun a b c => a = gY n ∧ b = gM n ∧ c = gD n) := by
  have hgy : 0 ≤ gyd n ∧ gyd n ≤ 365 := ⟨(gyd_in n).1, (gyd_in n).2.1⟩
  have hgd : 1 ≤ gD n ∧ gD n ≤ 31 := ⟨(gM_in n).2.2.1, gD_31 n⟩
  k_fill
  unfold GivesT
  intro dp un gd cn cs a ccd cl outer A₀ base h₀ L m s Q E B F X T hk hroom hunits hret
  refine wpAny_call ?_
  k_dflt (refine' code_defG (news := []) ?k1 ?k2 ?k3 News.nil ?k5 ?kA ?kF ?kK ?k6 ?k7 ?k8 ?k9 ?kB ?_ ?c2 ?c3 ?c4 ?c5; (case kA => exact rfl); (case kF => exact rfl); (case kK => assumption); (case k1 => k_asm); (case k2 => k_asm); (case k3 => k_asm); (case k5 => k_asm); (case k6 => k_is); (case k7 => k_is); (case k8 => ktr_room); (case k9 => exact BindsTo.of_eq rfl); (case c5 => decide); (case kB => exact locs rfl); (case c2 => exact rfl); (case c3 => exact rfl); (case c4 => exact rfl); k_whole; intro g' L' h' FG' F' N' B' X' T' GG; (try dsimp only); (try k_lift B'); (try k_fold))
  k_steps
  all_goals (first
    | (refine SMeet.intro _ (by k_asm) (by k_asm) (fun p hp => hp) ⟨_, rfl⟩ (by (first | exact gY_t1 (by with_reducible assumption) (by with_reducible assumption) (by with_reducible assumption) (by with_reducible assumption) (by with_reducible assumption) (by with_reducible assumption) (by with_reducible assumption) (by with_reducible assumption) (by with_reducible assumption) (by with_reducible assumption) | exact gY_t2 (by with_reducible assumption) (by with_reducible assumption) (by with_reducible assumption) (by with_reducible assumption) (by with_reducible assumption) (by with_reducible assumption) (by with_reducible assumption) (by with_reducible assumption) (by with_reducible assumption) (by with_reducible assumption) | exact gY_f (by with_reducible assumption) (by with_reducible assumption) (by with_reducible assumption) (by with_reducible assumption) (by with_reducible assumption) (by with_reducible assumption) (by with_reducible assumption) (by with_reducible assumption) (by with_reducible assumption) (by with_reducible assumption) (by with_reducible assumption))) ?_; intro z h1 h2; simp only [h1, if_false])
    | refine tup_end (Q := Q) hret GG (by with_reducible assumption) (by k_asm) (by k_mem) ⟨rfl, by (first | exact mon_t rfl (by with_reducible assumption) (by with_reducible assumption) (by with_reducible assumption) (by with_reducible assumption) | exact mon_f1 rfl (by with_reducible assumption) (by with_reducible assumption) (by with_reducible assumption) (by with_reducible assumption) (by with_reducible assumption) | exact mon_f2 rfl (by with_reducible assumption) (by with_reducible assumption) (by with_reducible assumption) (by with_reducible assumption) (by with_reducible assumption)), by omega⟩)
end
end Mine
namespace Mine
open PySem PySem.Float64 PySem.W PyProof.Rows PySem.Calls
local macro_rules | `(tactic| k_room) => `(tactic| ktr_room)
local macro_rules | `(tactic| walk_at "binaryOp Mod int int") => `(tactic| (k_here; k_dflt (refine' r_mod_ii ?k1 ?_; (case k1 => decide); k_whole); (try dsimp only)))
local macro_rules | `(tactic| walk_at "binaryOp Div int int") => `(tactic| (k_here; k_dflt (refine' r_div_ii ?k1 ?k2 ?k3 ?_; (case k1 => constructor <;> omega); (case k2 => constructor <;> omega); (case k3 => omega); k_whole); (try dsimp only)))
local macro_rules | `(tactic| walk_at "call builtin:math.floor") => `(tactic| (k_here; k_dflt (refine' r_floor_ii ?k0 ?k1 ?k2 ?k3 ?_; (case k0 => rfl); (case k1 => constructor <;> omega); (case k2 => constructor <;> omega); (case k3 => omega); k_whole; (try dsimp only))))
local macro_rules | `(tactic| walk_at "binaryOp Add float int") => `(tactic| (k_here; k_dflt (refine' r_add_fi ?k0 ?k1 ?k2 ?_; (case k0 => first | with_reducible exact rfl | exact lit_epoch); (case k1 => constructor <;> omega); (case k2 => constructor <;> omega); k_whole); (try dsimp only)))
local macro_rules | `(tactic| walk_at "inplaceOp Add float int") => `(tactic| (k_here; k_dflt (refine' r_iadd_fi ?k0 ?k1 ?k2 ?_; (case k0 => with_reducible exact rfl); (case k1 => constructor <;> omega); (case k2 => constructor <;> omega); k_whole); (try dsimp only)))
local macro_rules | `(tactic| walk_at "binaryOp Add int float") => `(tactic| (k_here; k_dflt (refine' r_add_if ?k0 ?k1 ?k2 ?_; (case k0 => first | with_reducible exact rfl | exact lit_half); (case k1 => constructor <;> omega); (case k2 => constructor <;> omega); k_whole); (try dsimp only)))
local macro_rules | `(tactic| walk_at "binaryOp Sub float float") => `(tactic| (k_here; k_dflt (refine' r_sub_ff ?k0 ?k1 ?k2 ?k3 ?k4 ?_; (case k0 => with_reducible exact rfl); (case k1 => with_reducible exact rfl); (case k2 => constructor <;> omega); (case k3 => constructor <;> omega); (case k4 => omega); k_whole); (try dsimp only)))
local macro_rules | `(tactic| walk_at "binaryOp Mult int float") => `(tactic| (k_here; k_dflt (refine' r_mul_if ?k0 ?k1 ?k2 ?k3 ?k4 ?k5 ?_; (case k0 => with_reducible exact rfl); (case k1 => constructor <;> omega); (case k2 => constructor <;> omega); (case k3 => constructor <;> omega); (case k4 => omega); (case k5 => omega); k_whole); (try dsimp only)))
local macro_rules | `(tactic| walk_at "binaryOp Mod float int") => `(tactic| (k_here; k_dflt (refine' r_mod_fi ?k0 ?k1 ?k2 ?k3 ?_; (case k0 => with_reducible exact rfl); (case k1 => constructor <;> omega); (case k2 => constructor <;> omega); (case k3 => decide); k_whole); (try dsimp only)))
local macro_rules | `(tactic| walk_at "compareOp Eq float int") => `(tactic| (k_here; k_dflt (refine' r_eq_fi ?k0 ?k1 ?_; (case k0 => with_reducible exact rfl); (case k1 => constructor <;> omega); k_whole); (try dsimp only)))
local macro_rules | `(tactic| walk_at "compareOp NotEq float int") => `(tactic| (k_here; k_dflt (refine' r_ne_fi ?k0 ?k1 ?_; (case k0 => with_reducible exact rfl); (case k1 => constructor <;> omega); k_whole); (try dsimp only)))
local macro_rules | `(tactic| walk_at "call type:int") => `(tactic| (k_here; k_dflt (refine' r_int ?k0 ?k1 ?k2 ?_; (case k0 => with_reducible exact rfl); (case k1 => constructor <;> omega); (case k2 => omega); k_whole); (try dsimp only)))
set_option hygiene false in
local macro_rules | `(tactic| walk_at "call builtin:divmod") => `(tactic| (k_here; k_dflt (refine' r_divmod ?k1 ?k2 ?k3 ?_ ?kz; (case k1 => k_asm); (case k2 => k_asm); (case k3 => decide); (case kz => exact Or.inl (PyProof.noPylong_small (by omega))); k_whole); intro dq dr h' hdq hdr F' N'; (try dsimp only)))
local macro_rules | `(tactic| walk_at "binaryOp FloorDiv int int") => `(tactic| (k_here; k_dflt (refine' r_fdiv_ii ?k0 ?k1 ?k2 ?_; (case k0 => rfl); (case k1 => decide); (case k2 => exact Or.inl (PyProof.noPylong_small (by omega))); k_whole); (try dsimp only)))
local macro_rules | `(tactic| walk_at "inplaceOp Add ref") => `(tactic| (k_here; (with_reducible show wpAny _ _ (inplaceOp Operator.Add (Value.ref _) (Value.ref _)) _ _ _); k_dflt (refine' iadd_in ?k1 ?k2 ?k3 ?k4 ?k5 ?k6 ?_; (case k1 => k_asm); (case k2 => k_asm); (case k3 => k_mem); (case k4 => k_mem); (case k5 => first | decide | size_fits); (case k6 => k_upd); k_whole); intro h' F' N'; (try k_sweep)))
section
variable {w : World} {mean : ExcName → Option Value} {mg mb : Str → Option Value}
local macro_rules | `(tactic| walk_at "call ref") => `(tactic| (k_here; (with_reducible show wpAny _ _ (PySem.call (Value.ref 190) _ _) _ _ _); k_dflt (refine' Gives.use (c_glong _ _) ?k1 ?k2 ?k3 ?k4 ?k5 ?kK ?kd ?ku ?_; (case k1 => k_asm); (case k2 => k_asm); (case k3 => k_asm); (case k4 => k_asm); (case k5 => k_asm); (case kK => first | exact rfl | assumption); (case kd => ktr_room); (case ku => ktr_units); k_whole; intro t9 h9 tk9 F9 N9 S9 P9; (try (have cE9 := InElt.then (by with_reducible assumption) S9)); (try clear S9); (try k_sweep); (try dsimp only); (try k_fold))))
set_option hygiene false in
local macro_rules | `(tactic| walk_at "pyIter ref") => `(tactic| (k_here; (fail_if_success (have m9 : LMark 1 := by with_reducible assumption)); (with_reducible show wpAny _ _ (pyIter (Value.ref _)) (fun it s₂ => LoopAtV _ _ _ _ _ _ _ _ _ it s₂) _ _); k_dflt (refine' range2 (n1 := Str.ofString "rest") (n2 := Str.ofString "year") (Tk 36524 100 0 _ _) ?hh ?hr ?hsm ?hF ?hN ?h1 ?h2 ?hx1 ?hx2 ?h12 ?hp ?_ ?_; (case hh => rfl); (case hr => assumption); (case hsm => decide); (case hF => k_asm); (case hN => k_asm); (case h1 => exact rfl); (case h2 => exact rfl); (case hx1 => decide); (case hx2 => decide); (case h12 => decide); (case hp => refine Tk.start ?_ ?_ <;> first | omega | exact Tk.nn hP9)); rotate_left; (intro u9 c9 d9 tc9 td9 h9 tk9 hP9 F9 N9; (have lm9 := lmark 1); (try k_sweep); (try dsimp only); (try k_fold)); rotate_left; (intro j9 c9 d9 k9 t9 tc9 td9 h9 tk9 own9 hP9 F9 N9; (try dsimp only); (try k_fold))))
set_option hygiene false in
local macro_rules | `(tactic| walk_at "pyIter ref") => `(tactic| (k_here; (have m8 : LMark 1 := by with_reducible assumption); (try clear m8); (fail_if_success (have m9 : LMark 2 := by with_reducible assumption)); (with_reducible show wpAny _ _ (pyIter (Value.ref _)) (fun it s₂ => LoopAtV _ _ _ _ _ _ _ _ _ it s₂) _ _); k_dflt (refine' range2 (n1 := Str.ofString "rest") (n2 := Str.ofString "year") (Tk 1461 4 0 _ _) ?hh ?hr ?hsm ?hF ?hN ?h1 ?h2 ?hx1 ?hx2 ?h12 ?hp ?_ ?_; (case hh => rfl); (case hr => assumption); (case hsm => decide); (case hF => k_asm); (case hN => k_asm); (case h1 => exact rfl); (case h2 => exact rfl); (case hx1 => decide); (case hx2 => decide); (case h12 => decide); (case hp => refine Tk.start ?_ ?_ <;> first | omega | exact Tk.nn hP9)); rotate_left; (intro u9 c9 d9 tc9 td9 h9 tk9 hP9 F9 N9; (have lm9 := lmark 2); (try k_sweep); (try dsimp only); (try k_fold)); rotate_left; (intro j9 c9 d9 k9 t9 tc9 td9 h9 tk9 own9 hP9 F9 N9; (try dsimp only); (try k_fold))))
set_option hygiene false in
local macro_rules | `(tactic| walk_at "pyIter ref") => `(tactic| (k_here; (have m8 : LMark 2 := by with_reducible assumption); (try clear m8); (fail_if_success (have m9 : LMark 3 := by with_reducible assumption)); (with_reducible show wpAny _ _ (pyIter (Value.ref _)) (fun it s₂ => LoopAtV _ _ _ _ _ _ _ _ _ it s₂) _ _); k_dflt (refine' range2 (n1 := Str.ofString "rest") (n2 := Str.ofString "year") (Tk 365 1 0 _ _) ?hh ?hr ?hsm ?hF ?hN ?h1 ?h2 ?hx1 ?hx2 ?h12 ?hp ?_ ?_; (case hh => rfl); (case hr => assumption); (case hsm => decide); (case hF => k_asm); (case hN => k_asm); (case h1 => exact rfl); (case h2 => exact rfl); (case hx1 => decide); (case hx2 => decide); (case h12 => decide); (case hp => refine Tk.start ?_ ?_ <;> first | omega | exact Tk.nn hP9)); rotate_left; (intro u9 c9 d9 tc9 td9 h9 tk9 hP9 F9 N9; (have lm9 := lmark 3); (have lc9 := lg_c (by with_reducible assumption) (by with_reducible assumption) (by with_reducible assumption) (by with_reducible assumption) hP9); (have ly9 := lg_y (by with_reducible assumption) (by with_reducible assumption) (by with_reducible assumption) (by with_reducible assumption) hP9); (clear hP9); (subst lc9); (subst ly9); (try k_sweep); (try dsimp only); (try k_fold)); rotate_left; (intro j9 c9 d9 k9 t9 tc9 td9 h9 tk9 own9 hP9 F9 N9; (try dsimp only); (try k_fold))))
theorem c_lgreg (n : Int) (t : Tok) (hn : 300000 ≤ n ∧ n ≤ 37000000000) : GivesT PySem.Challenge.rw_ad5025_01.row.prog w (hd01.heap_39 w.params) hd01.view_39 (looseW hd01.view_39 [Str.ofString "to_jd_gregorian", Str.ofString "from_jd_gregorian", Str.ofString "to_jd_hebrew", Str.ofString "from_jd_hebrew"]) mean mg mb 2 183 [.int n t] (fun a b c => a = gY n ∧ b = gM n ∧ c = gD n) := by
  have hgy : 0 ≤ gyd n ∧ gyd n ≤ 365 := ⟨(gyd_in n).1, (gyd_in n).2.1⟩
  k_fill
  unfold GivesT
  intro dp un gd cn cs a ccd cl outer A₀ base h₀ L m s Q E B F X T hk hroom hunits hret
  refine wpAny_call ?_
  k_dflt (refine' code_defG (news := []) ?k1 ?k2 ?k3 News.nil ?k5 ?kA ?kF ?kK ?k6 ?k7 ?k8 ?k9 ?kB ?_ ?c2 ?c3 ?c4 ?c5; (case kA => exact rfl); (case kF => exact rfl); (case kK => assumption); (case k1 => k_asm); (case k2 => k_asm); (case k3 => k_asm); (case k5 => k_asm); (case k6 => k_is); (case k7 => k_is); (case k8 => ktr_room); (case k9 => exact BindsTo.of_eq rfl); (case c5 => decide); (case kB => exact locs rfl); (case c2 => exact rfl); (case c3 => exact rfl); (case c4 => exact rfl); k_whole; intro g' L' h' FG' F' N' B' X' T' GG; (try dsimp only); (try k_lift B'); (try k_fold))
  k_steps
  all_goals (first
    | (refine R2End.intro _ _ (by k_asm) (by k_asm) (fun p hp => hp) ⟨_, rfl⟩ ⟨_, rfl⟩ (Tk.yes hP9 (by with_reducible assumption) (by decide)) ?_; intro z h1 h2 h3; simp only [h1, h2, h3, if_false])
    | (refine R2End.intro _ _ (by k_asm) (by k_asm) (fun p hp => hp) ⟨_, rfl⟩ ⟨_, rfl⟩ (Tk.no hP9 (by with_reducible assumption)) ?_; intro z h1 h2 h3; simp only [h1, h2, h3, if_false])
    | (refine tup_end (Q := Q) hret GG (by with_reducible assumption) (by k_asm) (by k_mem) ⟨rfl, ?_⟩; first | with_reducible exact lg_t12 (by with_reducible assumption) (by with_reducible assumption) (by with_reducible assumption) | with_reducible exact lg_t11 (by with_reducible assumption) (by with_reducible assumption) (by with_reducible assumption) | with_reducible exact lg_t10 (by with_reducible assumption) (by with_reducible assumption) (by with_reducible assumption) | with_reducible exact lg_t9 (by with_reducible assumption) (by with_reducible assumption) (by with_reducible assumption) | with_reducible exact lg_t8 (by with_reducible assumption) (by with_reducible assumption) (by with_reducible assumption) | with_reducible exact lg_t7 (by with_reducible assumption) (by with_reducible assumption) (by with_reducible assumption) | with_reducible exact lg_t6 (by with_reducible assumption) (by with_reducible assumption) (by with_reducible assumption) | with_reducible exact lg_t5 (by with_reducible assumption) (by with_reducible assumption) (by with_reducible assumption) | with_reducible exact lg_t4 (by with_reducible assumption) (by with_reducible assumption) (by with_reducible assumption) | with_reducible exact lg_t3 (by with_reducible assumption) (by with_reducible assumption) (by with_reducible assumption) | with_reducible exact lg_t2 (by with_reducible assumption) (by with_reducible assumption) (by with_reducible assumption) | with_reducible exact lg_t1 (by with_reducible assumption) (by with_reducible assumption) | with_reducible exact lg_f12 (by with_reducible assumption) (by with_reducible assumption) (by with_reducible assumption) | with_reducible exact lg_f11 (by with_reducible assumption) (by with_reducible assumption) (by with_reducible assumption) | with_reducible exact lg_f10 (by with_reducible assumption) (by with_reducible assumption) (by with_reducible assumption) | with_reducible exact lg_f9 (by with_reducible assumption) (by with_reducible assumption) (by with_reducible assumption) | with_reducible exact lg_f8 (by with_reducible assumption) (by with_reducible assumption) (by with_reducible assumption) | with_reducible exact lg_f7 (by with_reducible assumption) (by with_reducible assumption) (by with_reducible assumption) | with_reducible exact lg_f6 (by with_reducible assumption) (by with_reducible assumption) (by with_reducible assumption) | with_reducible exact lg_f5 (by with_reducible assumption) (by with_reducible assumption) (by with_reducible assumption) | with_reducible exact lg_f4 (by with_reducible assumption) (by with_reducible assumption) (by with_reducible assumption) | with_reducible exact lg_f3 (by with_reducible assumption) (by with_reducible assumption) (by with_reducible assumption) | with_reducible exact lg_f2 (by with_reducible assumption) (by with_reducible assumption) (by with_reducible assumption) | with_reducible exact lg_f1 (by with_reducible assumption) (by with_reducible assumption) | with_reducible exact lg_t12 (by with_reducible assumption) (by with_reducible assumption) (by omega) | (exfalso; have := gyd_f (n := n) (by with_reducible assumption); omega) | (exfalso; omega)))
end
end Mine
namespace Mine
open PySem PySem.Float64 PySem.W PyProof.Rows PySem.Calls
local macro_rules | `(tactic| k_room) => `(tactic| ktr_room)
local macro_rules | `(tactic| walk_at "binaryOp Mod int int") => `(tactic| (k_here; k_dflt (refine' r_mod_ii ?k1 ?_; (case k1 => decide); k_whole); (try dsimp only)))
local macro_rules | `(tactic| walk_at "binaryOp Div int int") => `(tactic| (k_here; k_dflt (refine' r_div_ii ?k1 ?k2 ?k3 ?_; (case k1 => constructor <;> omega); (case k2 => constructor <;> omega); (case k3 => omega); k_whole); (try dsimp only)))
local macro_rules | `(tactic| walk_at "call builtin:math.floor") => `(tactic| (k_here; k_dflt (refine' r_floor_ii ?k0 ?k1 ?k2 ?k3 ?_; (case k0 => rfl); (case k1 => constructor <;> omega); (case k2 => constructor <;> omega); (case k3 => omega); k_whole; (try dsimp only))))
local macro_rules | `(tactic| walk_at "binaryOp Add float int") => `(tactic| (k_here; k_dflt (refine' r_add_fi ?k0 ?k1 ?k2 ?_; (case k0 => first | with_reducible exact rfl | exact lit_epoch); (case k1 => constructor <;> omega); (case k2 => constructor <;> omega); k_whole); (try dsimp only)))
local macro_rules | `(tactic| walk_at "inplaceOp Add float int") => `(tactic| (k_here; k_dflt (refine' r_iadd_fi ?k0 ?k1 ?k2 ?_; (case k0 => with_reducible exact rfl); (case k1 => constructor <;> omega); (case k2 => constructor <;> omega); k_whole); (try dsimp only)))
local macro_rules | `(tactic| walk_at "binaryOp Add int float") => `(tactic| (k_here; k_dflt (refine' r_add_if ?k0 ?k1 ?k2 ?_; (case k0 => first | with_reducible exact rfl | exact lit_half); (case k1 => constructor <;> omega); (case k2 => constructor <;> omega); k_whole); (try dsimp only)))
local macro_rules | `(tactic| walk_at "binaryOp Sub float float") => `(tactic| (k_here; k_dflt (refine' r_sub_ff ?k0 ?k1 ?k2 ?k3 ?k4 ?_; (case k0 => with_reducible exact rfl); (case k1 => with_reducible exact rfl); (case k2 => constructor <;> omega); (case k3 => constructor <;> omega); (case k4 => omega); k_whole); (try dsimp only)))
local macro_rules | `(tactic| walk_at "binaryOp Mult int float") => `(tactic| (k_here; k_dflt (refine' r_mul_if ?k0 ?k1 ?k2 ?k3 ?k4 ?k5 ?_; (case k0 => with_reducible exact rfl); (case k1 => constructor <;> omega); (case k2 => constructor <;> omega); (case k3 => constructor <;> omega); (case k4 => omega); (case k5 => omega); k_whole); (try dsimp only)))
local macro_rules | `(tactic| walk_at "binaryOp Mod float int") => `(tactic| (k_here; k_dflt (refine' r_mod_fi ?k0 ?k1 ?k2 ?k3 ?_; (case k0 => with_reducible exact rfl); (case k1 => constructor <;> omega); (case k2 => constructor <;> omega); (case k3 => decide); k_whole); (try dsimp only)))
local macro_rules | `(tactic| walk_at "compareOp Eq float int") => `(tactic| (k_here; k_dflt (refine' r_eq_fi ?k0 ?k1 ?_; (case k0 => with_reducible exact rfl); (case k1 => constructor <;> omega); k_whole); (try dsimp only)))
local macro_rules | `(tactic| walk_at "compareOp NotEq float int") => `(tactic| (k_here; k_dflt (refine' r_ne_fi ?k0 ?k1 ?_; (case k0 => with_reducible exact rfl); (case k1 => constructor <;> omega); k_whole); (try dsimp only)))
local macro_rules | `(tactic| walk_at "call type:int") => `(tactic| (k_here; k_dflt (refine' r_int ?k0 ?k1 ?k2 ?_; (case k0 => with_reducible exact rfl); (case k1 => constructor <;> omega); (case k2 => omega); k_whole); (try dsimp only)))
set_option hygiene false in
local macro_rules | `(tactic| walk_at "call builtin:divmod") => `(tactic| (k_here; k_dflt (refine' r_divmod ?k1 ?k2 ?k3 ?_ ?kz; (case k1 => k_asm); (case k2 => k_asm); (case k3 => decide); (case kz => exact Or.inl (PyProof.noPylong_small (by omega))); k_whole); intro dq dr h' hdq hdr F' N'; (try dsimp only)))
local macro_rules | `(tactic| walk_at "binaryOp FloorDiv int int") => `(tactic| (k_here; k_dflt (refine' r_fdiv_ii ?k0 ?k1 ?k2 ?_; (case k0 => rfl); (case k1 => decide); (case k2 => exact Or.inl (PyProof.noPylong_small (by omega))); k_whole); (try dsimp only)))
local macro_rules | `(tactic| walk_at "inplaceOp Add ref") => `(tactic| (k_here; (with_reducible show wpAny _ _ (inplaceOp Operator.Add (Value.ref _) (Value.ref _)) _ _ _); k_dflt (refine' iadd_in ?k1 ?k2 ?k3 ?k4 ?k5 ?k6 ?_; (case k1 => k_asm); (case k2 => k_asm); (case k3 => k_mem); (case k4 => k_mem); (case k5 => first | decide | size_fits); (case k6 => k_upd); k_whole); intro h' F' N'; (try k_sweep)))
local macro_rules | `(tactic| walk_at "binaryOp Add float int") => `(tactic| (k_here; k_dflt (refine' r_add_xi ?k0 ?_; (case k0 => constructor <;> omega); k_whole); (try dsimp only)))
local macro_rules | `(tactic| walk_at "binaryOp Add float int") => `(tactic| (k_here; k_dflt (refine' r_add_fi ?k0 ?k1 ?k2 ?_; (case k0 => first | with_reducible exact rfl | exact lit_half | exact lit_epoch | exact lit_greg | exact lit_m | exact lit_d); (case k1 => constructor <;> omega); (case k2 => constructor <;> omega); k_whole); (try dsimp only)))
local macro_rules | `(tactic| walk_at "binaryOp Add int float") => `(tactic| (k_here; k_dflt (refine' r_add_if ?k0 ?k1 ?k2 ?_; (case k0 => first | with_reducible exact rfl | exact lit_half | exact lit_epoch | exact lit_greg | exact lit_m | exact lit_d); (case k1 => constructor <;> omega); (case k2 => constructor <;> omega); k_whole); (try dsimp only)))
local macro_rules | `(tactic| walk_at "binaryOp Sub float float") => `(tactic| (k_here; k_dflt (refine' r_sub_ff ?k0 ?k1 ?k2 ?k3 ?k4 ?_; (case k0 => first | with_reducible exact rfl | exact lit_half | exact lit_epoch | exact lit_greg | exact lit_m | exact lit_d); (case k1 => first | with_reducible exact rfl | exact lit_half | exact lit_epoch | exact lit_greg | exact lit_m | exact lit_d); (case k2 => constructor <;> omega); (case k3 => constructor <;> omega); (case k4 => omega); k_whole); (try dsimp only)))
local macro_rules | `(tactic| walk_at "binaryOp Sub float int") => `(tactic| (k_here; k_dflt (refine' r_sub_fi ?k0 ?k1 ?k2 ?k3 ?_; (case k0 => first | with_reducible exact rfl | exact lit_half | exact lit_epoch | exact lit_greg | exact lit_m | exact lit_d); (case k1 => constructor <;> omega); (case k2 => constructor <;> omega); (case k3 => omega); k_whole); (try dsimp only)))
local macro_rules | `(tactic| walk_at "binaryOp Mult float int") => `(tactic| (k_here; k_dflt (refine' r_mul_fi ?k0 ?k1 ?k2 ?k3 ?k4 ?k5 ?_; (case k0 => first | with_reducible exact rfl | exact lit_half | exact lit_epoch | exact lit_greg | exact lit_m | exact lit_d); (case k1 => constructor <;> omega); (case k2 => constructor <;> omega); (case k3 => constructor <;> omega); (case k4 => omega); (case k5 => omega); k_whole); (try dsimp only)))
local macro_rules | `(tactic| walk_at "binaryOp Div float int") => `(tactic| (k_here; k_dflt (refine' r_div_fi ?k0 ?k1 ?k2 ?_; (case k0 => first | with_reducible exact rfl | exact lit_half | exact lit_epoch | exact lit_greg | exact lit_m | exact lit_d); (case k1 => constructor <;> omega); (case k2 => decide); k_whole); (try dsimp only)))
set_option hygiene false in
local macro_rules | `(tactic| walk_at "call builtin:math.floor") => `(tactic| (k_here; k_dflt (refine' r_floor_ffg ?k0 ?k1 ?k2 ?k3 ?_; (case k0 => rfl); (case k1 => constructor <;> omega); (case k2 => constructor <;> omega); (case k3 => omega); k_whole); (try dsimp only); intro fi9 fh9; (try dsimp only)))
set_option hygiene false in
local macro_rules | `(tactic| walk_at "call builtin:math.floor") => `(tactic| (k_here; k_dflt (refine' r_floor_hfg ?k0 ?k1 ?k2 ?_; (case k0 => rfl); (case k1 => first | with_reducible exact rfl | exact lit_half | exact lit_epoch | exact lit_greg | exact lit_m | exact lit_d); (case k2 => constructor <;> omega); k_whole); (try dsimp only); intro fi9 fh9; (try dsimp only)))
local macro_rules | `(tactic| walk_at "call builtin:math.floor") => `(tactic| (k_here; k_dflt (refine' r_floor_mon ?k0 ?k1 ?k2 ?k3 ?_; (case k0 => rfl); (case k1 => constructor <;> omega); (case k2 => constructor <;> omega); (case k3 => constructor <;> omega); k_whole); (try dsimp only)))
set_option hygiene false in
local macro_rules | `(tactic| walk_at "binaryOp Mod float int") => `(tactic| (k_here; k_dflt (refine' r_mod_fig ?k0 ?k1 ?k2 ?k3 ?_; (case k0 => first | with_reducible exact rfl | exact lit_half | exact lit_epoch | exact lit_greg | exact lit_m | exact lit_d); (case k1 => constructor <;> omega); (case k2 => constructor <;> omega); (case k3 => decide); k_whole); (try dsimp only); intro fi9 fh9; (try dsimp only)))
local macro_rules | `(tactic| walk_at "compareOp Lt float int") => `(tactic| (k_here; k_dflt (refine' r_lt_fi ?k0 ?k1 ?_; (case k0 => first | with_reducible exact rfl | exact lit_half | exact lit_epoch | exact lit_greg | exact lit_m | exact lit_d); (case k1 => constructor <;> omega); k_whole); (try dsimp only)))
local macro_rules | `(tactic| walk_at "compareOp Lt float float") => `(tactic| (k_here; k_dflt (refine' r_lt_ff ?k0 ?k1 ?k2 ?k3 ?_; (case k0 => first | with_reducible exact rfl | exact lit_half | exact lit_epoch | exact lit_greg | exact lit_m | exact lit_d); (case k1 => first | with_reducible exact rfl | exact lit_half | exact lit_epoch | exact lit_greg | exact lit_m | exact lit_d); (case k2 => constructor <;> omega); (case k3 => constructor <;> omega); k_whole); (try dsimp only)))
local macro_rules | `(tactic| walk_at "compareOp Gt float float") => `(tactic| (k_here; k_dflt (refine' r_gt_ff ?k0 ?k1 ?k2 ?k3 ?_; (case k0 => first | with_reducible exact rfl | exact lit_half | exact lit_epoch | exact lit_greg | exact lit_m | exact lit_d); (case k1 => first | with_reducible exact rfl | exact lit_half | exact lit_epoch | exact lit_greg | exact lit_m | exact lit_d); (case k2 => constructor <;> omega); (case k3 => constructor <;> omega); k_whole); (try dsimp only)))
local macro_rules | `(tactic| walk_at "compareOp GtE float float") => `(tactic| (k_here; k_dflt (refine' r_ge_ff ?k0 ?k1 ?k2 ?k3 ?_; (case k0 => first | with_reducible exact rfl | exact lit_half | exact lit_epoch | exact lit_greg | exact lit_m | exact lit_d); (case k1 => first | with_reducible exact rfl | exact lit_half | exact lit_epoch | exact lit_greg | exact lit_m | exact lit_d); (case k2 => constructor <;> omega); (case k3 => constructor <;> omega); k_whole); (try dsimp only)))
section
variable {w : World} {mean : ExcName → Option Value} {mg mb : Str → Option Value}
local macro_rules | `(tactic| walk_at "binaryOp Mult float float") => `(tactic| (k_here; k_dflt (refine' r_mul_ff (c := 98496 * (n - 347996)) ?k0 ?k1 ?k2 ?k3 ?k4 ?k5 ?k6 ?k7 ?_; (case k0 => with_reducible exact rfl); (case k1 => exact lit_m); (case k2 => constructor <;> omega); (case k3 => constructor <;> omega); (case k4 => constructor <;> omega); (case k5 => omega); (case k6 => decide); (case k7 => omega); k_whole); (try dsimp only)))
local macro_rules | `(tactic| walk_at "binaryOp Div float float") => `(tactic| (k_here; k_dflt (refine' r_div_ff ?k0 ?k1 ?k2 ?k3 ?_; (case k0 => with_reducible exact rfl); (case k1 => exact lit_d); (case k2 => decide); (case k3 => decide); k_whole); (try dsimp only)))
theorem c_jd7f (y : Int) (t t2 t3 : Tok) (hy : 0 ≤ y ∧ y ≤ 100000003) : G01 w mean mg mb 3 127 [.int y t, .int 7 t2, .int 1 t3] True (fun t => .float (hf (2 * lny y - 1)) t) := by
  rw [lny_ny]
  have e : 2 * (ny y + 2) - 1 = 2 * (ny y + 1) + 1 := by omega
  rw [e]
  exact fun dp un gd cn cs a ccd cl outer A₀ base h₀ L m s Q E B F X T hk hr hu hret => c_jd7 y 1 t t2 t3 hy (by decide) dp un gd cn cs a ccd cl outer A₀ base h₀ L m s Q E B F X T hk hr hu fun t h' tk' st _ => hret t h' tk' st trivial
theorem c_jdf (y m d : Int) (t t2 t3 : Tok) (hy : 0 ≤ y ∧ y ≤ 100000002) (hm : 1 ≤ m ∧ m ≤ 13) (hd : 1 ≤ d ∧ d ≤ 400) : G01 w mean mg mb 7 127 [.int y t, .int m t2, .int d t3] True (fun t => .float (hf (2 * (lny y + off y m + d) - 3)) t) := by
  rw [lny_ny]
  have e : 2 * (ny y + 2 + off y m + d) - 3 = 2 * (ny y + off y m + d) + 1 := by omega
  rw [e]
  exact fun dp un gd cn cs a ccd cl outer A₀ base h₀ L m' s Q E B F X T hk hr hu hret => c_jd y m d t t2 t3 hy hm hd dp un gd cn cs a ccd cl outer A₀ base h₀ L m' s Q E B F X T hk hr hu fun t h' tk' st _ => hret t h' tk' st trivial
end
end Mine
namespace Mine
open PySem PySem.Float64 PySem.W PyProof.Rows PySem.Calls
section
variable {prog : Program} {w : World} {A : Around} {E : Value → Shared → Prop} {s : Shared} {t u : Tok} {Q : Value → Shared → Prop} {x y : UInt64} {a b n : Int}
theorem r_mul_m (hx : x = hf a) (hy : y = hf 196992) (ha : 0 ≤ a ∧ a ≤ 75000000000) (h : Q (.float (hf (98496 * a)) s.toks) { s with toks := s.toks + 1 }) : wpAny (model prog w) A (binaryOp .Mult (.float x t) (.float y u)) Q E s :=
  r_mul_ff (c := 98496 * a) hx hy (by constructor <;> omega) (by decide) (by omega) (by omega) (by decide) (by omega) h
theorem r_floor_cnt {k : Int} (hA : A.handled = none) (e : a = 2 * k) (hk : 0 ≤ k ∧ k ≤ 4000000000000000) (h : ∀ i, i = k / 35975351 → Q (.int i s.toks) { s with toks := s.toks + 1 }) : wpAny (model prog w) A (call (.builtin "math.floor") [.float (Float64.div (hf a) (hf 71950702)) t]) Q E s := by
  subst e
  exact r_floor_ff2 (a := k) (b := 35975351) hA hk (by decide) (h _ rfl)
end
local macro_rules | `(tactic| k_room) => `(tactic| ktr_room)
local macro_rules | `(tactic| walk_at "binaryOp Mod int int") => `(tactic| (k_here; k_dflt (refine' r_mod_ii ?k1 ?_; (case k1 => decide); k_whole); (try dsimp only)))
local macro_rules | `(tactic| walk_at "binaryOp Div int int") => `(tactic| (k_here; k_dflt (refine' r_div_ii ?k1 ?k2 ?k3 ?_; (case k1 => constructor <;> omega); (case k2 => constructor <;> omega); (case k3 => omega); k_whole); (try dsimp only)))
local macro_rules | `(tactic| walk_at "call builtin:math.floor") => `(tactic| (k_here; k_dflt (refine' r_floor_ii ?k0 ?k1 ?k2 ?k3 ?_; (case k0 => rfl); (case k1 => constructor <;> omega); (case k2 => constructor <;> omega); (case k3 => omega); k_whole; (try dsimp only))))
local macro_rules | `(tactic| walk_at "binaryOp Add float int") => `(tactic| (k_here; k_dflt (refine' r_add_fi ?k0 ?k1 ?k2 ?_; (case k0 => first | with_reducible exact rfl | exact lit_epoch); (case k1 => constructor <;> omega); (case k2 => constructor <;> omega); k_whole); (try dsimp only)))
local macro_rules | `(tactic| walk_at "inplaceOp Add float int") => `(tactic| (k_here; k_dflt (refine' r_iadd_fi ?k0 ?k1 ?k2 ?_; (case k0 => with_reducible exact rfl); (case k1 => constructor <;> omega); (case k2 => constructor <;> omega); k_whole); (try dsimp only)))
local macro_rules | `(tactic| walk_at "binaryOp Add int float") => `(tactic| (k_here; k_dflt (refine' r_add_if ?k0 ?k1 ?k2 ?_; (case k0 => first | with_reducible exact rfl | exact lit_half); (case k1 => constructor <;> omega); (case k2 => constructor <;> omega); k_whole); (try dsimp only)))
local macro_rules | `(tactic| walk_at "binaryOp Sub float float") => `(tactic| (k_here; k_dflt (refine' r_sub_ff ?k0 ?k1 ?k2 ?k3 ?k4 ?_; (case k0 => with_reducible exact rfl); (case k1 => with_reducible exact rfl); (case k2 => constructor <;> omega); (case k3 => constructor <;> omega); (case k4 => omega); k_whole); (try dsimp only)))
local macro_rules | `(tactic| walk_at "binaryOp Mult int float") => `(tactic| (k_here; k_dflt (refine' r_mul_if ?k0 ?k1 ?k2 ?k3 ?k4 ?k5 ?_; (case k0 => with_reducible exact rfl); (case k1 => constructor <;> omega); (case k2 => constructor <;> omega); (case k3 => constructor <;> omega); (case k4 => omega); (case k5 => omega); k_whole); (try dsimp only)))
local macro_rules | `(tactic| walk_at "binaryOp Mod float int") => `(tactic| (k_here; k_dflt (refine' r_mod_fi ?k0 ?k1 ?k2 ?k3 ?_; (case k0 => with_reducible exact rfl); (case k1 => constructor <;> omega); (case k2 => constructor <;> omega); (case k3 => decide); k_whole); (try dsimp only)))
local macro_rules | `(tactic| walk_at "compareOp Eq float int") => `(tactic| (k_here; k_dflt (refine' r_eq_fi ?k0 ?k1 ?_; (case k0 => with_reducible exact rfl); (case k1 => constructor <;> omega); k_whole); (try dsimp only)))
local macro_rules | `(tactic| walk_at "compareOp NotEq float int") => `(tactic| (k_here; k_dflt (refine' r_ne_fi ?k0 ?k1 ?_; (case k0 => with_reducible exact rfl); (case k1 => constructor <;> omega); k_whole); (try dsimp only)))
local macro_rules | `(tactic| walk_at "call type:int") => `(tactic| (k_here; k_dflt (refine' r_int ?k0 ?k1 ?k2 ?_; (case k0 => with_reducible exact rfl); (case k1 => constructor <;> omega); (case k2 => omega); k_whole); (try dsimp only)))
set_option hygiene false in
local macro_rules | `(tactic| walk_at "call builtin:divmod") => `(tactic| (k_here; k_dflt (refine' r_divmod ?k1 ?k2 ?k3 ?_ ?kz; (case k1 => k_asm); (case k2 => k_asm); (case k3 => decide); (case kz => exact Or.inl (PyProof.noPylong_small (by omega))); k_whole); intro dq dr h' hdq hdr F' N'; (try dsimp only)))
local macro_rules | `(tactic| walk_at "binaryOp FloorDiv int int") => `(tactic| (k_here; k_dflt (refine' r_fdiv_ii ?k0 ?k1 ?k2 ?_; (case k0 => rfl); (case k1 => decide); (case k2 => exact Or.inl (PyProof.noPylong_small (by omega))); k_whole); (try dsimp only)))
local macro_rules | `(tactic| walk_at "inplaceOp Add ref") => `(tactic| (k_here; (with_reducible show wpAny _ _ (inplaceOp Operator.Add (Value.ref _) (Value.ref _)) _ _ _); k_dflt (refine' iadd_in ?k1 ?k2 ?k3 ?k4 ?k5 ?k6 ?_; (case k1 => k_asm); (case k2 => k_asm); (case k3 => k_mem); (case k4 => k_mem); (case k5 => first | decide | size_fits); (case k6 => k_upd); k_whole); intro h' F' N'; (try k_sweep)))
local macro_rules | `(tactic| walk_at "binaryOp Add float int") => `(tactic| (k_here; k_dflt (refine' r_add_xi ?k0 ?_; (case k0 => constructor <;> omega); k_whole); (try dsimp only)))
local macro_rules | `(tactic| walk_at "binaryOp Add float int") => `(tactic| (k_here; k_dflt (refine' r_add_fi ?k0 ?k1 ?k2 ?_; (case k0 => first | with_reducible exact rfl | exact lit_half | exact lit_epoch | exact lit_greg | exact lit_m | exact lit_d); (case k1 => constructor <;> omega); (case k2 => constructor <;> omega); k_whole); (try dsimp only)))
local macro_rules | `(tactic| walk_at "binaryOp Add int float") => `(tactic| (k_here; k_dflt (refine' r_add_if ?k0 ?k1 ?k2 ?_; (case k0 => first | with_reducible exact rfl | exact lit_half | exact lit_epoch | exact lit_greg | exact lit_m | exact lit_d); (case k1 => constructor <;> omega); (case k2 => constructor <;> omega); k_whole); (try dsimp only)))
local macro_rules | `(tactic| walk_at "binaryOp Sub float float") => `(tactic| (k_here; k_dflt (refine' r_sub_ff ?k0 ?k1 ?k2 ?k3 ?k4 ?_; (case k0 => first | with_reducible exact rfl | exact lit_half | exact lit_epoch | exact lit_greg | exact lit_m | exact lit_d); (case k1 => first | with_reducible exact rfl | exact lit_half | exact lit_epoch | exact lit_greg | exact lit_m | exact lit_d); (case k2 => constructor <;> omega); (case k3 => constructor <;> omega); (case k4 => omega); k_whole); (try dsimp only)))
local macro_rules | `(tactic| walk_at "binaryOp Sub float int") => `(tactic| (k_here; k_dflt (refine' r_sub_fi ?k0 ?k1 ?k2 ?k3 ?_; (case k0 => first | with_reducible exact rfl | exact lit_half | exact lit_epoch | exact lit_greg | exact lit_m | exact lit_d); (case k1 => constructor <;> omega); (case k2 => constructor <;> omega); (case k3 => omega); k_whole); (try dsimp only)))
local macro_rules | `(tactic| walk_at "binaryOp Mult float int") => `(tactic| (k_here; k_dflt (refine' r_mul_fi ?k0 ?k1 ?k2 ?k3 ?k4 ?k5 ?_; (case k0 => first | with_reducible exact rfl | exact lit_half | exact lit_epoch | exact lit_greg | exact lit_m | exact lit_d); (case k1 => constructor <;> omega); (case k2 => constructor <;> omega); (case k3 => constructor <;> omega); (case k4 => omega); (case k5 => omega); k_whole); (try dsimp only)))
local macro_rules | `(tactic| walk_at "binaryOp Div float int") => `(tactic| (k_here; k_dflt (refine' r_div_fi ?k0 ?k1 ?k2 ?_; (case k0 => first | with_reducible exact rfl | exact lit_half | exact lit_epoch | exact lit_greg | exact lit_m | exact lit_d); (case k1 => constructor <;> omega); (case k2 => decide); k_whole); (try dsimp only)))
set_option hygiene false in
local macro_rules | `(tactic| walk_at "call builtin:math.floor") => `(tactic| (k_here; k_dflt (refine' r_floor_ffg ?k0 ?k1 ?k2 ?k3 ?_; (case k0 => rfl); (case k1 => constructor <;> omega); (case k2 => constructor <;> omega); (case k3 => omega); k_whole); (try dsimp only); intro fi9 fh9; (try dsimp only)))
set_option hygiene false in
local macro_rules | `(tactic| walk_at "call builtin:math.floor") => `(tactic| (k_here; k_dflt (refine' r_floor_hfg ?k0 ?k1 ?k2 ?_; (case k0 => rfl); (case k1 => first | with_reducible exact rfl | exact lit_half | exact lit_epoch | exact lit_greg | exact lit_m | exact lit_d); (case k2 => constructor <;> omega); k_whole); (try dsimp only); intro fi9 fh9; (try dsimp only)))
local macro_rules | `(tactic| walk_at "call builtin:math.floor") => `(tactic| (k_here; k_dflt (refine' r_floor_mon ?k0 ?k1 ?k2 ?k3 ?_; (case k0 => rfl); (case k1 => constructor <;> omega); (case k2 => constructor <;> omega); (case k3 => constructor <;> omega); k_whole); (try dsimp only)))
set_option hygiene false in
local macro_rules | `(tactic| walk_at "binaryOp Mod float int") => `(tactic| (k_here; k_dflt (refine' r_mod_fig ?k0 ?k1 ?k2 ?k3 ?_; (case k0 => first | with_reducible exact rfl | exact lit_half | exact lit_epoch | exact lit_greg | exact lit_m | exact lit_d); (case k1 => constructor <;> omega); (case k2 => constructor <;> omega); (case k3 => decide); k_whole); (try dsimp only); intro fi9 fh9; (try dsimp only)))
local macro_rules | `(tactic| walk_at "compareOp Lt float int") => `(tactic| (k_here; k_dflt (refine' r_lt_fi ?k0 ?k1 ?_; (case k0 => first | with_reducible exact rfl | exact lit_half | exact lit_epoch | exact lit_greg | exact lit_m | exact lit_d); (case k1 => constructor <;> omega); k_whole); (try dsimp only)))
local macro_rules | `(tactic| walk_at "compareOp Lt float float") => `(tactic| (k_here; k_dflt (refine' r_lt_ff ?k0 ?k1 ?k2 ?k3 ?_; (case k0 => first | with_reducible exact rfl | exact lit_half | exact lit_epoch | exact lit_greg | exact lit_m | exact lit_d); (case k1 => first | with_reducible exact rfl | exact lit_half | exact lit_epoch | exact lit_greg | exact lit_m | exact lit_d); (case k2 => constructor <;> omega); (case k3 => constructor <;> omega); k_whole); (try dsimp only)))
local macro_rules | `(tactic| walk_at "compareOp Gt float float") => `(tactic| (k_here; k_dflt (refine' r_gt_ff ?k0 ?k1 ?k2 ?k3 ?_; (case k0 => first | with_reducible exact rfl | exact lit_half | exact lit_epoch | exact lit_greg | exact lit_m | exact lit_d); (case k1 => first | with_reducible exact rfl | exact lit_half | exact lit_epoch | exact lit_greg | exact lit_m | exact lit_d); (case k2 => constructor <;> omega); (case k3 => constructor <;> omega); k_whole); (try dsimp only)))
local macro_rules | `(tactic| walk_at "compareOp GtE float float") => `(tactic| (k_here; k_dflt (refine' r_ge_ff ?k0 ?k1 ?k2 ?k3 ?_; (case k0 => first | with_reducible exact rfl | exact lit_half | exact lit_epoch | exact lit_greg | exact lit_m | exact lit_d); (case k1 => first | with_reducible exact rfl | exact lit_half | exact lit_epoch | exact lit_greg | exact lit_m | exact lit_d); (case k2 => constructor <;> omega); (case k3 => constructor <;> omega); k_whole); (try dsimp only)))
section
variable {w : World} {mean : ExcName → Option Value} {mg mb : Str → Option Value}
local macro_rules | `(tactic| walk_at "binaryOp Mult float float") => `(tactic| (k_here; k_dflt (refine' r_mul_m ?k0 ?k1 ?k2 ?_; (case k0 => with_reducible exact rfl); (case k1 => exact lit_m); (case k2 => constructor <;> omega); k_whole); (try dsimp only)))
local macro_rules | `(tactic| walk_at "binaryOp Div float float") => `(tactic| (k_here; k_dflt (refine' r_div_ff ?k0 ?k1 ?k2 ?k3 ?_; (case k0 => with_reducible exact rfl); (case k1 => exact lit_d); (case k2 => decide); (case k3 => decide); k_whole); (try dsimp only)))
set_option hygiene false in
local macro_rules | `(tactic| walk_at "call builtin:math.floor") => `(tactic| (k_here; k_dflt (refine' r_floor_cnt (k := 98496 * (n - 347996)) ?k0 ?k1 ?k2 ?_; (case k0 => rfl); (case k1 => omega); (case k2 => constructor <;> omega); k_whole); (try dsimp only); intro fi9 fh9; (try dsimp only)))
theorem c_jd_y (ya y m d : Int) (t t2 t3 : Tok) (hya : y = ya) (hy : 0 ≤ ya ∧ ya ≤ 100000002) (hm : 1 ≤ m ∧ m ≤ 13) (hd : 1 ≤ d ∧ d ≤ 400) : G01 w mean mg mb 7 127 [.int y t, .int m t2, .int d t3] (0 ≤ off ya m ∧ off ya m ≤ 800 ∧ 300000 ≤ lny ya ∧ lny ya ≤ 36700000002) (fun t => .float (hf (2 * (lny ya + off ya m + d) - 3)) t) := by
  subst hya
  rw [lny_ny]
  have e : 2 * (ny y + 2 + off y m + d) - 3 = 2 * (ny y + off y m + d) + 1 := by omega
  rw [e]
  exact fun dp un gd cn cs a ccd cl outer A₀ base h₀ L m' s Q E B F X T hk hr hu hret => c_jd y m d t t2 t3 hy hm hd dp un gd cn cs a ccd cl outer A₀ base h₀ L m' s Q E B F X T hk hr hu fun t h' tk' st p => hret t h' tk' st (by omega)
theorem c_jd7g (y : Int) (t t2 t3 : Tok) (hy : 0 ≤ y ∧ y ≤ 100000003) : G01 w mean mg mb 3 127 [.int y t, .int 7 t2, .int 1 t3] (300000 ≤ lny y ∧ lny y ≤ 36700000002) (fun t => .float (hf (2 * lny y - 1)) t) := by
  rw [lny_ny]
  have e : 2 * (ny y + 2) - 1 = 2 * (ny y + 1) + 1 := by omega
  rw [e]
  exact fun dp un gd cn cs a ccd cl outer A₀ base h₀ L m s Q E B F X T hk hr hu hret => c_jd7 y 1 t t2 t3 hy (by decide) dp un gd cn cs a ccd cl outer A₀ base h₀ L m s Q E B F X T hk hr hu fun t h' tk' st p => hret t h' tk' st (by omega)
theorem c_md_y (ya y m : Int) (t t2 : Tok) (hya : y = ya) (hy : 0 ≤ ya ∧ ya ≤ 100000002) (hm : 1 ≤ m ∧ m ≤ 13) : G01 w mean mg mb 6 120 [.int y t, .int m t2] (29 ≤ ml ya m ∧ ml ya m ≤ 30) (fun t => .int (ml ya m) t) := by
  subst hya; exact c_md y m t t2 hy hm
/-- the floats' comparison, as days -/
theorem cmp1 {v i1 n k : Int} (hv : v = 2 * (n - 1) + 1) (h1 : i1 = v / 2) (g : 2 * k - 1 ≤ 2 * i1 + 1) : k ≤ n := by omega
theorem cmp1n {v i1 n k : Int} (hv : v = 2 * (n - 1) + 1) (h1 : i1 = v / 2) (g : ¬ 2 * k - 1 ≤ 2 * i1 + 1) : ¬ k ≤ n := by omega
theorem cmp2 {v i1 n k : Int} (hv : v = 2 * (n - 1) + 1) (h1 : i1 = v / 2) (g : 2 * i1 + 1 < 2 * (k + 1) - 3) : n < k := by omega
theorem cmp2n {v i1 n k : Int} (hv : v = 2 * (n - 1) + 1) (h1 : i1 = v / 2) (g : ¬ 2 * i1 + 1 < 2 * (k + 1) - 3) : ¬ n < k := by omega
theorem cmp3 {v i1 n k : Int} (hv : v = 2 * (n - 1) + 1) (h1 : i1 = v / 2) (g : 2 * k - 3 < 2 * i1 + 1) : k ≤ n := by omega
theorem cmp3n {v i1 n k : Int} (hv : v = 2 * (n - 1) + 1) (h1 : i1 = v / 2) (g : ¬ 2 * k - 3 < 2 * i1 + 1) : ¬ k ≤ n := by omega
theorem day_eq {v i1 n k dc : Int} (hv : v = 2 * (n - 1) + 1) (h1 : i1 = v / 2) (g : n - k + 1 = dc) : (2 * i1 + 1 - (2 * (k + 1) - 3)) / 2 + 1 = dc := by omega
set_option hygiene false in
local macro_rules | `(tactic| walk_at "call ref") => `(tactic| (k_here; (with_reducible show wpAny _ _ (PySem.call (Value.ref 120) _ _) _ _ _); k_dflt (refine' Gives.use (c_md_y ya _ _ _ _ ?kp ?kq ?kr) ?k1 ?k2 ?k3 ?k4 ?k5 ?kK ?kd ?ku ?_; (case kp => first | exact rfl | exact (P1_end hd hP9 (cmp1n (by with_reducible assumption) (by with_reducible assumption) (by with_reducible assumption)))); (case kq => constructor <;> omega); (case kr => constructor <;> omega); (case k1 => k_asm); (case k2 => k_asm); (case k3 => k_asm); (case k4 => k_asm); (case k5 => k_asm); (case kK => first | exact rfl | assumption); (case kd => ktr_room); (case ku => ktr_units); k_whole; intro t9 h9 tk9 F9 N9 S9 P9; (try (have cE9 := InElt.then (by with_reducible assumption) S9)); (try clear S9); (try k_sweep); (try dsimp only); (try k_fold))))
set_option hygiene false in
local macro_rules | `(tactic| walk_at "call ref") => `(tactic| (k_here; (with_reducible show wpAny _ _ (PySem.call (Value.ref 127) _ _) _ _ _); k_dflt (refine' Gives.use (c_jd_y ya _ _ _ _ _ _ ?kp ?kq ?kr ?ks) ?k1 ?k2 ?k3 ?k4 ?k5 ?kK ?kd ?ku ?_; (case kp => first | exact rfl | exact (P1_end hd hP9 (cmp1n (by with_reducible assumption) (by with_reducible assumption) (by with_reducible assumption)))); (case kq => constructor <;> omega); (case kr => constructor <;> omega); (case ks => constructor <;> omega); (case k1 => k_asm); (case k2 => k_asm); (case k3 => k_asm); (case k4 => k_asm); (case k5 => k_asm); (case kK => first | exact rfl | assumption); (case kd => ktr_room); (case ku => ktr_units); k_whole; intro t9 h9 tk9 F9 N9 S9 P9; (try (have cE9 := InElt.then (by with_reducible assumption) S9)); (try clear S9); (try k_sweep); (try dsimp only); (try k_fold))))
local macro_rules | `(tactic| walk_at "call ref") => `(tactic| (k_here; (with_reducible show wpAny _ _ (PySem.call (Value.ref 127) _ _) _ _ _); k_dflt (refine' Gives.use (c_jd7g _ _ _ _ ?kp) ?k1 ?k2 ?k3 ?k4 ?k5 ?kK ?kd ?ku ?_; (case kp => constructor <;> omega); (case k1 => k_asm); (case k2 => k_asm); (case k3 => k_asm); (case k4 => k_asm); (case k5 => k_asm); (case kK => first | exact rfl | assumption); (case kd => ktr_room); (case ku => ktr_units); k_whole; intro t9 h9 tk9 F9 N9 S9 P9; (try (have cE9 := InElt.then (by with_reducible assumption) S9)); (try clear S9); (try k_sweep); (try dsimp only); (try k_fold))))
set_option hygiene false in
local macro_rules | `(tactic| walk_at "exec While Compare") => `(tactic| (k_here; (fail_if_success (have m9 : LMark 1 := by with_reducible assumption)); k_dflt (refine' while2 (n1 := Str.ofString "i") (n2 := Str.ofString "year") (P1 ya) (fun i _ => (ya + 1 - i).toNat) ?hF ?hN ?h1 ?h2 ?hp ?_; (case hF => k_asm); (case hN => k_asm); (case h1 => exact rfl); (case h2 => exact rfl); (case hp => exact ⟨rfl, by omega, by omega⟩)); intro c9 d9 tc9 td9 h9 tk9 hP9 F9 N9; (have hi9 := P1_in hP9); (have lm9 := lmark 1); (try k_sweep); (try dsimp only); (try k_fold)))
set_option hygiene false in
local macro_rules | `(tactic| walk_at "exec While Compare") => `(tactic| (k_here; (have m8 : LMark 1 := by with_reducible assumption); (try clear m8); (fail_if_success (have m9 : LMark 2 := by with_reducible assumption)); k_dflt (refine' while2 (n1 := Str.ofString "i") (n2 := Str.ofString "month") (P2 ya n) (fun i _ => (14 - i).toNat) ?hF ?hN ?h1 ?h2 ?hp ?_; (case hF => k_asm); (case hN => k_asm); (case h1 => exact rfl); (case h2 => exact rfl); (case hp => first | exact P2_7 hd (cmp2 (by with_reducible assumption) (by with_reducible assumption) (by with_reducible assumption)) | exact P2_1 hd (cmp2n (by with_reducible assumption) (by with_reducible assumption) (by with_reducible assumption)))); intro c8 d8 tc8 td8 h8 tk8 hP8 F8 N8; (have hi8 := P2_in hP8); (have e8 := hi8.1); (subst e8); (have lm8 := lmark 2); (try k_sweep); (try dsimp only); (try k_fold)))
theorem c_fjd (ya mo dc n v : Int) (t : Tok) (hv : v = 2 * (n - 1) + 1) (hd : HD ya mo dc n) (hya : 1 ≤ ya ∧ ya ≤ 100000001) : GivesT PySem.Challenge.rw_ad5025_01.row.prog w (hd01.heap_39 w.params) hd01.view_39 (looseW hd01.view_39 [Str.ofString "to_jd_gregorian", Str.ofString "from_jd_gregorian", Str.ofString "to_jd_hebrew", Str.ofString "from_jd_hebrew"]) mean mg mb 8 134 [.float (hf v) t] (fun a b c => a = ya ∧ b = mo ∧ c = dc) := by
  have hbig := HD_big hd (by omega)
  have hcnt := HD_cnt hd (by omega)
  k_fill
  unfold GivesT
  intro dp un gd cn cs a ccd cl outer A₀ base h₀ L m s Q E B F X T hk hroom hunits hret
  refine wpAny_call ?_
  k_dflt (refine' code_defG (news := []) ?k1 ?k2 ?k3 News.nil ?k5 ?kA ?kF ?kK ?k6 ?k7 ?k8 ?k9 ?kB ?_ ?c2 ?c3 ?c4 ?c5; (case kA => exact rfl); (case kF => exact rfl); (case kK => assumption); (case k1 => k_asm); (case k2 => k_asm); (case k3 => k_asm); (case k5 => k_asm); (case k6 => k_is); (case k7 => k_is); (case k8 => ktr_room); (case k9 => exact BindsTo.of_eq rfl); (case c5 => decide); (case kB => exact locs rfl); (case c2 => exact rfl); (case c3 => exact rfl); (case c4 => exact rfl); k_whole; intro g' L' h' FG' F' N' B' X' T' GG; (try dsimp only); (try k_lift B'); (try k_fold))
  k_steps
  all_goals (first
    | (refine WEnd.intro _ _ (by k_asm) (by k_asm) (fun p hp => hp) ⟨_, rfl⟩ ⟨_, rfl⟩ (P2_next hP8 (cmp3 (by with_reducible assumption) (by with_reducible assumption) (by with_reducible assumption))).1 (P2_next hP8 (cmp3 (by with_reducible assumption) (by with_reducible assumption) (by with_reducible assumption))).2 ?_; intro z h1 h2; simp only [h1, h2, if_false])
    | (refine WEnd.intro _ _ (by k_asm) (by k_asm) (fun p hp => hp) ⟨_, rfl⟩ ⟨_, rfl⟩ (P1_next hd hP9 (cmp1 (by with_reducible assumption) (by with_reducible assumption) (by with_reducible assumption))).1 (P1_next hd hP9 (cmp1 (by with_reducible assumption) (by with_reducible assumption) (by with_reducible assumption))).2 ?_; intro z h1 h2; simp only [h1, h2, if_false])
    | refine tup_end (Q := Q) hret GG (by with_reducible assumption) (by k_asm) (by k_mem) ⟨P1_end hd hP9 (cmp1n (by with_reducible assumption) (by with_reducible assumption) (by with_reducible assumption)), (P2_end hd hP8 (cmp3n (by with_reducible assumption) (by with_reducible assumption) (by with_reducible assumption))).1, day_eq (by with_reducible assumption) (by with_reducible assumption) (P2_end hd hP8 (cmp3n (by with_reducible assumption) (by with_reducible assumption) (by with_reducible assumption))).2⟩)
end
end Mine
namespace Mine
open PySem PySem.Float64 PySem.W PyProof.Rows PySem.Calls
local macro_rules | `(tactic| k_room) => `(tactic| ktr_room)
local macro_rules | `(tactic| walk_at "binaryOp Mod int int") => `(tactic| (k_here; k_dflt (refine' r_mod_ii ?k1 ?_; (case k1 => decide); k_whole); (try dsimp only)))
local macro_rules | `(tactic| walk_at "binaryOp Div int int") => `(tactic| (k_here; k_dflt (refine' r_div_ii ?k1 ?k2 ?k3 ?_; (case k1 => constructor <;> omega); (case k2 => constructor <;> omega); (case k3 => omega); k_whole); (try dsimp only)))
local macro_rules | `(tactic| walk_at "call builtin:math.floor") => `(tactic| (k_here; k_dflt (refine' r_floor_ii ?k0 ?k1 ?k2 ?k3 ?_; (case k0 => rfl); (case k1 => constructor <;> omega); (case k2 => constructor <;> omega); (case k3 => omega); k_whole; (try dsimp only))))
local macro_rules | `(tactic| walk_at "binaryOp Add float int") => `(tactic| (k_here; k_dflt (refine' r_add_fi ?k0 ?k1 ?k2 ?_; (case k0 => first | with_reducible exact rfl | exact lit_epoch); (case k1 => constructor <;> omega); (case k2 => constructor <;> omega); k_whole); (try dsimp only)))
local macro_rules | `(tactic| walk_at "inplaceOp Add float int") => `(tactic| (k_here; k_dflt (refine' r_iadd_fi ?k0 ?k1 ?k2 ?_; (case k0 => with_reducible exact rfl); (case k1 => constructor <;> omega); (case k2 => constructor <;> omega); k_whole); (try dsimp only)))
local macro_rules | `(tactic| walk_at "binaryOp Add int float") => `(tactic| (k_here; k_dflt (refine' r_add_if ?k0 ?k1 ?k2 ?_; (case k0 => first | with_reducible exact rfl | exact lit_half); (case k1 => constructor <;> omega); (case k2 => constructor <;> omega); k_whole); (try dsimp only)))
local macro_rules | `(tactic| walk_at "binaryOp Sub float float") => `(tactic| (k_here; k_dflt (refine' r_sub_ff ?k0 ?k1 ?k2 ?k3 ?k4 ?_; (case k0 => with_reducible exact rfl); (case k1 => with_reducible exact rfl); (case k2 => constructor <;> omega); (case k3 => constructor <;> omega); (case k4 => omega); k_whole); (try dsimp only)))
local macro_rules | `(tactic| walk_at "binaryOp Mult int float") => `(tactic| (k_here; k_dflt (refine' r_mul_if ?k0 ?k1 ?k2 ?k3 ?k4 ?k5 ?_; (case k0 => with_reducible exact rfl); (case k1 => constructor <;> omega); (case k2 => constructor <;> omega); (case k3 => constructor <;> omega); (case k4 => omega); (case k5 => omega); k_whole); (try dsimp only)))
local macro_rules | `(tactic| walk_at "binaryOp Mod float int") => `(tactic| (k_here; k_dflt (refine' r_mod_fi ?k0 ?k1 ?k2 ?k3 ?_; (case k0 => with_reducible exact rfl); (case k1 => constructor <;> omega); (case k2 => constructor <;> omega); (case k3 => decide); k_whole); (try dsimp only)))
local macro_rules | `(tactic| walk_at "compareOp Eq float int") => `(tactic| (k_here; k_dflt (refine' r_eq_fi ?k0 ?k1 ?_; (case k0 => with_reducible exact rfl); (case k1 => constructor <;> omega); k_whole); (try dsimp only)))
local macro_rules | `(tactic| walk_at "compareOp NotEq float int") => `(tactic| (k_here; k_dflt (refine' r_ne_fi ?k0 ?k1 ?_; (case k0 => with_reducible exact rfl); (case k1 => constructor <;> omega); k_whole); (try dsimp only)))
local macro_rules | `(tactic| walk_at "call type:int") => `(tactic| (k_here; k_dflt (refine' r_int ?k0 ?k1 ?k2 ?_; (case k0 => with_reducible exact rfl); (case k1 => constructor <;> omega); (case k2 => omega); k_whole); (try dsimp only)))
set_option hygiene false in
local macro_rules | `(tactic| walk_at "call builtin:divmod") => `(tactic| (k_here; k_dflt (refine' r_divmod ?k1 ?k2 ?k3 ?_ ?kz; (case k1 => k_asm); (case k2 => k_asm); (case k3 => decide); (case kz => exact Or.inl (PyProof.noPylong_small (by omega))); k_whole); intro dq dr h' hdq hdr F' N'; (try dsimp only)))
local macro_rules | `(tactic| walk_at "binaryOp FloorDiv int int") => `(tactic| (k_here; k_dflt (refine' r_fdiv_ii ?k0 ?k1 ?k2 ?_; (case k0 => rfl); (case k1 => decide); (case k2 => exact Or.inl (PyProof.noPylong_small (by omega))); k_whole); (try dsimp only)))
local macro_rules | `(tactic| walk_at "inplaceOp Add ref") => `(tactic| (k_here; (with_reducible show wpAny _ _ (inplaceOp Operator.Add (Value.ref _) (Value.ref _)) _ _ _); k_dflt (refine' iadd_in ?k1 ?k2 ?k3 ?k4 ?k5 ?k6 ?_; (case k1 => k_asm); (case k2 => k_asm); (case k3 => k_mem); (case k4 => k_mem); (case k5 => first | decide | size_fits); (case k6 => k_upd); k_whole); intro h' F' N'; (try k_sweep)))
section
variable {w : World} {mean : ExcName → Option Value} {mg mb : Str → Option Value}
local macro_rules | `(tactic| walk_at "call ref") => `(tactic| (k_here; (with_reducible show wpAny _ _ (PySem.call (Value.ref 209) _ _) _ _ _); k_dflt (refine' Gives.use (c_lny _ _ ?kp) ?k1 ?k2 ?k3 ?k4 ?k5 ?kK ?kd ?ku ?_; (case kp => constructor <;> omega); (case k1 => k_asm); (case k2 => k_asm); (case k3 => k_asm); (case k4 => k_asm); (case k5 => k_asm); (case kK => first | exact rfl | assumption); (case kd => ktr_room); (case ku => ktr_units); k_whole; intro t9 h9 tk9 F9 N9 S9 P9; (try (have cE9 := InElt.then (by with_reducible assumption) S9)); (try clear S9); (try k_sweep); (try dsimp only); (try k_fold))))
set_option hygiene false in
local macro_rules | `(tactic| walk_at "call ref") => `(tactic| (k_here; (with_reducible show wpAny _ _ (PySem.call (Value.ref 216) _ _) _ _ _); k_dflt (refine' GivesRow.use (c_row _ _ ?kp) ?k1 ?k2 ?k3 ?k4 ?k5 ?kK ?kd ?ku ?_; (case kp => constructor <;> omega); (case k1 => k_asm); (case k2 => k_asm); (case k3 => k_asm); (case k4 => k_asm); (case k5 => k_asm); (case kK => first | exact rfl | assumption); (case kd => ktr_room); (case ku => ktr_units); k_whole; intro ax9 lo9 ws9 n9 tl9 h9 tk9 F9 N9 hm9 hc9 hd9 hr9; (try k_sweep); (try dsimp only); (try k_fold))))
set_option hygiene false in
local macro_rules | `(tactic| walk_at "pyIter ref") => `(tactic| (k_here; (with_reducible show wpAny _ _ (pyIter (Value.ref _)) (fun it s₂ => TurnsAt _ _ _ _ _ _ _ _ _ it s₂) _ _); k_dflt (refine' row_loop (nm := Str.ofString "rest") (x1 := Str.ofString "month") (x2 := Str.ofString "size") (Pd ya n) ?hh ?hF ?hN hm9 hc9 hd9 hr9 ?hk (Pd_start hlo) ?_ ?_; (case hh => rfl); (case hF => k_asm); (case hN => k_asm); (case hk => exact rfl)); rotate_left; (intro c9 tc9 u9 h9 tk9 hP9 F9 N9; (try dsimp only); (try k_fold)); rotate_left; (intro c9 tc9 a9 b9 r9 u9 T9 t19 t29 h9 tk9 own9 hP9 hT9 F9 N9; (try dsimp only); (try k_fold))))
local macro_rules | `(tactic| walk_at "exec For Tuple Call cons nil") => `(tactic| (k_here; (rename Fr _ _ _ _ => lF'); (with_unfolding_all refine' For_turns lF' ?_; k_whole)))
theorem REnd_ret {h₀ : Heap} {L : Addr} {nm x1 x2 : Str} {m₀ : Str → Option Value} {P : Int → Prop} {news : List (Addr × Obj)} {s₁ s₂ : Shared} {Q : Flow → Shared → Prop} {v : Value} (h : Q (.ret v) s₂) : REnd h₀ L nm x1 x2 m₀ P news s₁ Q (.ret v) s₂ := h
theorem c_date (ya n : Int) (t t2 : Tok) (hya : 1 ≤ ya ∧ ya ≤ 100000000) (hlo : lny ya ≤ n) (hhi : n ≤ lny (ya + 1)) : GivesT PySem.Challenge.rw_ad5025_01.row.prog w (hd01.heap_39 w.params) hd01.view_39 (looseW hd01.view_39 [Str.ofString "to_jd_gregorian", Str.ofString "from_jd_gregorian", Str.ofString "to_jd_hebrew", Str.ofString "from_jd_hebrew"]) mean mg mb 4 223 [.int ya t, .int n t2] (fun a b c => HD a b c n ∧ ya ≤ a ∧ a ≤ ya + 1) := by
  k_fill
  unfold GivesT
  intro dp un gd cn cs a ccd cl outer A₀ base h₀ L m s Q E B F X T hk hroom hunits hret
  refine wpAny_call ?_
  k_dflt (refine' code_defG (news := []) ?k1 ?k2 ?k3 News.nil ?k5 ?kA ?kF ?kK ?k6 ?k7 ?k8 ?k9 ?kB ?_ ?c2 ?c3 ?c4 ?c5; (case kA => exact rfl); (case kF => exact rfl); (case kK => assumption); (case k1 => k_asm); (case k2 => k_asm); (case k3 => k_asm); (case k5 => k_asm); (case k6 => k_is); (case k7 => k_is); (case k8 => ktr_room); (case k9 => exact BindsTo.of_eq rfl); (case c5 => decide); (case kB => exact locs rfl); (case c2 => exact rfl); (case c3 => exact rfl); (case c4 => exact rfl); k_whole; intro g' L' h' FG' F' N' B' X' T' GG; (try dsimp only); (try k_lift B'); (try k_fold))
  k_steps
  all_goals (try (refine REnd_ret ?_; k_steps))
  all_goals (first
    | (refine REnd.intro (c9 - b9) (by k_asm) (by k_asm) (fun p hp => hp) ⟨_, rfl⟩ (Pd_next hP9 (by with_reducible assumption)) ?_; intro z h1 h2 h3; simp only [h1, h2, h3, if_false])
    | refine tup_end (Q := Q) hret GG (by with_reducible assumption) (by k_asm) (by k_mem) ⟨Pd_ret hP9 (by with_reducible assumption), by omega, by omega⟩
    | refine tup_end (Q := Q) hret GG (by with_reducible assumption) (by k_asm) (by k_mem) ⟨Pd_end hP9 hhi, by omega, by omega⟩)
end
end Mine
namespace Mine
open PySem PySem.Float64 PySem.W PyProof.Rows PySem.Calls
section
variable {prog : Program} {w : World} {K : Frag} {p : Program} {loose : List Str} {mean : ExcName → Option Value} {mg mb : Str → Option Value} {lv : Nat} {f : Addr} {vs : List Value}
  {dp un : Nat} {gd : Option (List Code)} {cn : Str} {cs : Scope} {a : Addr} {ccd : Value} {cl : List (Str × Addr)} {outer : List Env} {A₀ : Around} {base h₀ : Heap} {L : Addr} {m : Str → Option Value} {news : List (Addr × Obj)} {s : Shared} {Q E : Value → Shared → Prop}
theorem GivesT.useEq {x y z : Int} (C : GivesT prog w K p loose mean mg mb lv f vs (fun a b c => a = x ∧ b = y ∧ c = z)) (B : Below A₀ base outer h₀) (F : Fr h₀ L s.heap m) (X : K.In h₀) (N : News h₀ L s.heap news) (T : Top p loose mean mg mb h₀) (hk : cs.kind = .function)
    (hd : dp + lv < recursionLimit) (hu : un + 8 * lv < cLine)
    (ret : ∀ (T : Addr) (t1 t2 t3 : Tok) (h' : Heap) (tk' : Nat), Fr h₀ L h' m → News h₀ L h' ((T, ({ cls := .type "tuple", data := .seq #[.int x t1, .int y t2, .int z t3] } : Obj)) :: news) → Q (.ref T) { s with heap := h', toks := tk' }) :
    wpAny (model prog w) (ktrTop dp un gd cn cs L a ccd cl outer) (call (.ref f) vs) Q E s :=
  GivesT.use C B F X N T hk hd hu fun T y1 y2 y3 t1 t2 t3 h' tk' F' N' p => by
    obtain ⟨rfl, rfl, rfl⟩ := p
    exact ret T t1 t2 t3 h' tk' F' N'
end
section
variable {w : World} {mean : ExcName → Option Value} {mg mb : Str → Option Value}
/-- to_jd at a date that stands -/
theorem c_jdh {a b c n : Int} (t t2 t3 : Tok) (h : HD a b c n) (ha : 1 ≤ a ∧ a ≤ 100000001) : G01 w mean mg mb 7 127 [.int a t, .int b t2, .int c t3] (347997 ≤ n ∧ n ≤ 36530000000) (fun t => .float (hf (2 * (n - 1) + 1)) t) := by
  have hb := HD_big h (by omega)
  obtain ⟨⟨p1, p2, -⟩, p3, p4, p5⟩ := h
  have hm := ml_bnd a b
  have e : 2 * (n - 1) + 1 = 2 * (lny a + off a b + c) - 3 := by omega
  rw [e]
  exact fun dp un gd cn cs a' ccd cl outer A₀ base h₀ L m' s Q E B F X T hk hr hu hret => c_jd_y a a b c t t2 t3 rfl (by omega) ⟨p1, p2⟩ (by omega) dp un gd cn cs a' ccd cl outer A₀ base h₀ L m' s Q E B F X T hk hr hu fun t h' tk' st p => hret t h' tk' st hb
/-- the Gregorian to_jd at the date of a day -/
theorem c_gjdn {n : Int} (t t2 t3 : Tok) (hn : 300000 ≤ n ∧ n ≤ 37000000000) : G01 w mean mg mb 3 64 [.int (gY n) t, .int (gM n) t2, .int (gD n) t3] True (fun t => .float (hf (2 * (n - 1) + 1)) t) := by
  rw [← gjd_at]
  have h := gY_in n hn
  have g := gM_in n
  exact fun dp un gd cn cs a ccd cl outer A₀ base h₀ L m s Q E B F X T hk hr hu hret => c_gjd (gY n) (gM n) (gD n) t t2 t3 (by omega) ⟨g.1, g.2.1⟩ ⟨g.2.2.1, g.2.2.2⟩ dp un gd cn cs a ccd cl outer A₀ base h₀ L m s Q E B F X T hk hr hu fun t h' tk' st _ => hret t h' tk' st trivial
local macro_rules | `(tactic| k_room) => `(tactic| ktr_room)
local macro_rules | `(tactic| walk_at "binaryOp Mod int int") => `(tactic| (k_here; k_dflt (refine' r_mod_ii ?k1 ?_; (case k1 => decide); k_whole); (try dsimp only)))
local macro_rules | `(tactic| walk_at "binaryOp Div int int") => `(tactic| (k_here; k_dflt (refine' r_div_ii ?k1 ?k2 ?k3 ?_; (case k1 => constructor <;> omega); (case k2 => constructor <;> omega); (case k3 => omega); k_whole); (try dsimp only)))
local macro_rules | `(tactic| walk_at "call builtin:math.floor") => `(tactic| (k_here; k_dflt (refine' r_floor_ii ?k0 ?k1 ?k2 ?k3 ?_; (case k0 => rfl); (case k1 => constructor <;> omega); (case k2 => constructor <;> omega); (case k3 => omega); k_whole; (try dsimp only))))
local macro_rules | `(tactic| walk_at "binaryOp Add float int") => `(tactic| (k_here; k_dflt (refine' r_add_fi ?k0 ?k1 ?k2 ?_; (case k0 => first | with_reducible exact rfl | exact lit_epoch); (case k1 => constructor <;> omega); (case k2 => constructor <;> omega); k_whole); (try dsimp only)))
local macro_rules | `(tactic| walk_at "inplaceOp Add float int") => `(tactic| (k_here; k_dflt (refine' r_iadd_fi ?k0 ?k1 ?k2 ?_; (case k0 => with_reducible exact rfl); (case k1 => constructor <;> omega); (case k2 => constructor <;> omega); k_whole); (try dsimp only)))
local macro_rules | `(tactic| walk_at "binaryOp Add int float") => `(tactic| (k_here; k_dflt (refine' r_add_if ?k0 ?k1 ?k2 ?_; (case k0 => first | with_reducible exact rfl | exact lit_half); (case k1 => constructor <;> omega); (case k2 => constructor <;> omega); k_whole); (try dsimp only)))
local macro_rules | `(tactic| walk_at "binaryOp Sub float float") => `(tactic| (k_here; k_dflt (refine' r_sub_ff ?k0 ?k1 ?k2 ?k3 ?k4 ?_; (case k0 => with_reducible exact rfl); (case k1 => with_reducible exact rfl); (case k2 => constructor <;> omega); (case k3 => constructor <;> omega); (case k4 => omega); k_whole); (try dsimp only)))
local macro_rules | `(tactic| walk_at "binaryOp Mult int float") => `(tactic| (k_here; k_dflt (refine' r_mul_if ?k0 ?k1 ?k2 ?k3 ?k4 ?k5 ?_; (case k0 => with_reducible exact rfl); (case k1 => constructor <;> omega); (case k2 => constructor <;> omega); (case k3 => constructor <;> omega); (case k4 => omega); (case k5 => omega); k_whole); (try dsimp only)))
local macro_rules | `(tactic| walk_at "binaryOp Mod float int") => `(tactic| (k_here; k_dflt (refine' r_mod_fi ?k0 ?k1 ?k2 ?k3 ?_; (case k0 => with_reducible exact rfl); (case k1 => constructor <;> omega); (case k2 => constructor <;> omega); (case k3 => decide); k_whole); (try dsimp only)))
local macro_rules | `(tactic| walk_at "compareOp Eq float int") => `(tactic| (k_here; k_dflt (refine' r_eq_fi ?k0 ?k1 ?_; (case k0 => with_reducible exact rfl); (case k1 => constructor <;> omega); k_whole); (try dsimp only)))
local macro_rules | `(tactic| walk_at "compareOp NotEq float int") => `(tactic| (k_here; k_dflt (refine' r_ne_fi ?k0 ?k1 ?_; (case k0 => with_reducible exact rfl); (case k1 => constructor <;> omega); k_whole); (try dsimp only)))
local macro_rules | `(tactic| walk_at "call type:int") => `(tactic| (k_here; k_dflt (refine' r_int ?k0 ?k1 ?k2 ?_; (case k0 => with_reducible exact rfl); (case k1 => constructor <;> omega); (case k2 => omega); k_whole); (try dsimp only)))
set_option hygiene false in
local macro_rules | `(tactic| walk_at "call builtin:divmod") => `(tactic| (k_here; k_dflt (refine' r_divmod ?k1 ?k2 ?k3 ?_ ?kz; (case k1 => k_asm); (case k2 => k_asm); (case k3 => decide); (case kz => exact Or.inl (PyProof.noPylong_small (by omega))); k_whole); intro dq dr h' hdq hdr F' N'; (try dsimp only)))
local macro_rules | `(tactic| walk_at "binaryOp FloorDiv int int") => `(tactic| (k_here; k_dflt (refine' r_fdiv_ii ?k0 ?k1 ?k2 ?_; (case k0 => rfl); (case k1 => decide); (case k2 => exact Or.inl (PyProof.noPylong_small (by omega))); k_whole); (try dsimp only)))
local macro_rules | `(tactic| walk_at "inplaceOp Add ref") => `(tactic| (k_here; (with_reducible show wpAny _ _ (inplaceOp Operator.Add (Value.ref _) (Value.ref _)) _ _ _); k_dflt (refine' iadd_in ?k1 ?k2 ?k3 ?k4 ?k5 ?k6 ?_; (case k1 => k_asm); (case k2 => k_asm); (case k3 => k_mem); (case k4 => k_mem); (case k5 => first | decide | size_fits); (case k6 => k_upd); k_whole); intro h' F' N'; (try k_sweep)))
local macro_rules | `(tactic| walk_at "call ref") => `(tactic| (k_here; (with_reducible show wpAny _ _ (PySem.call (Value.ref 127) _ _) _ _ _); k_dflt (refine' Gives.use (c_jd7g _ _ _ _ ?kp) ?k1 ?k2 ?k3 ?k4 ?k5 ?kK ?kd ?ku ?_; (case kp => constructor <;> omega); (case k1 => k_asm); (case k2 => k_asm); (case k3 => k_asm); (case k4 => k_asm); (case k5 => k_asm); (case kK => first | exact rfl | assumption); (case kd => ktr_room); (case ku => ktr_units); k_whole; intro t9 h9 tk9 F9 N9 S9 P9; (try (have cE9 := InElt.then (by with_reducible assumption) S9)); (try clear S9); (try k_sweep); (try dsimp only); (try k_fold))))
/-- _law_told -/
theorem c_told (n : Int) (t : Tok) (hn : 347000 ≤ n ∧ n ≤ 37000000000) : G01 w mean mg mb 4 176 [.int n t] True (fun t => .float (hf (2 * (n - 1) + 1)) t) := by
  have hl1 := lny1
  unfold G01
  k_fill
  unfold Gives
  intro dp un gd cn cs a ccd cl outer A₀ base h₀ L m s Q E B F X T hk hroom hunits hret
  refine wpAny_call ?_
  k_dflt (refine' code_defG (news := []) ?k1 ?k2 ?k3 News.nil ?k5 ?kA ?kF ?kK ?k6 ?k7 ?k8 ?k9 ?kB ?_ ?c2 ?c3 ?c4 ?c5; (case kA => exact rfl); (case kF => exact rfl); (case kK => assumption); (case k1 => k_asm); (case k2 => k_asm); (case k3 => k_asm); (case k5 => k_asm); (case k6 => k_is); (case k7 => k_is); (case k8 => ktr_room); (case k9 => exact BindsTo.of_eq rfl); (case c5 => decide); (case kB => exact locs rfl); (case c2 => exact rfl); (case c3 => exact rfl); (case c4 => exact rfl); k_whole; intro g' L' h' FG' F' N' B' X' T' GG; (try dsimp only); (try k_lift B'); (try k_fold))
  k_steps
  all_goals (refine g_end (Q := Q) hret _ (congrArg (fun z => Value.float (hf z) _) ?_) GG (by with_reducible assumption) trivial)
  all_goals omega
end
end Mine
namespace Mine
open PySem PySem.Float64 PySem.W PyProof.Rows PySem.Calls
theorem yr_b (x : Int) : 1 ≤ 1 + x % 10 ^ Int.toNat 8 ∧ 1 + x % 10 ^ Int.toNat 8 ≤ 100000000 := by
  have h : (10 : Int) ^ Int.toNat 8 = 100000000 := by decide
  rw [h]; omega
local macro_rules | `(tactic| k_room) => `(tactic| ktr_room)
local macro_rules | `(tactic| walk_at "binaryOp Mod int int") => `(tactic| (k_here; k_dflt (refine' r_mod_ii ?k1 ?_; (case k1 => decide); k_whole); (try dsimp only)))
local macro_rules | `(tactic| walk_at "binaryOp Div int int") => `(tactic| (k_here; k_dflt (refine' r_div_ii ?k1 ?k2 ?k3 ?_; (case k1 => constructor <;> omega); (case k2 => constructor <;> omega); (case k3 => omega); k_whole); (try dsimp only)))
local macro_rules | `(tactic| walk_at "call builtin:math.floor") => `(tactic| (k_here; k_dflt (refine' r_floor_ii ?k0 ?k1 ?k2 ?k3 ?_; (case k0 => rfl); (case k1 => constructor <;> omega); (case k2 => constructor <;> omega); (case k3 => omega); k_whole; (try dsimp only))))
local macro_rules | `(tactic| walk_at "binaryOp Add float int") => `(tactic| (k_here; k_dflt (refine' r_add_fi ?k0 ?k1 ?k2 ?_; (case k0 => first | with_reducible exact rfl | exact lit_epoch); (case k1 => constructor <;> omega); (case k2 => constructor <;> omega); k_whole); (try dsimp only)))
local macro_rules | `(tactic| walk_at "inplaceOp Add float int") => `(tactic| (k_here; k_dflt (refine' r_iadd_fi ?k0 ?k1 ?k2 ?_; (case k0 => with_reducible exact rfl); (case k1 => constructor <;> omega); (case k2 => constructor <;> omega); k_whole); (try dsimp only)))
local macro_rules | `(tactic| walk_at "binaryOp Add int float") => `(tactic| (k_here; k_dflt (refine' r_add_if ?k0 ?k1 ?k2 ?_; (case k0 => first | with_reducible exact rfl | exact lit_half); (case k1 => constructor <;> omega); (case k2 => constructor <;> omega); k_whole); (try dsimp only)))
local macro_rules | `(tactic| walk_at "binaryOp Sub float float") => `(tactic| (k_here; k_dflt (refine' r_sub_ff ?k0 ?k1 ?k2 ?k3 ?k4 ?_; (case k0 => with_reducible exact rfl); (case k1 => with_reducible exact rfl); (case k2 => constructor <;> omega); (case k3 => constructor <;> omega); (case k4 => omega); k_whole); (try dsimp only)))
local macro_rules | `(tactic| walk_at "binaryOp Mult int float") => `(tactic| (k_here; k_dflt (refine' r_mul_if ?k0 ?k1 ?k2 ?k3 ?k4 ?k5 ?_; (case k0 => with_reducible exact rfl); (case k1 => constructor <;> omega); (case k2 => constructor <;> omega); (case k3 => constructor <;> omega); (case k4 => omega); (case k5 => omega); k_whole); (try dsimp only)))
local macro_rules | `(tactic| walk_at "binaryOp Mod float int") => `(tactic| (k_here; k_dflt (refine' r_mod_fi ?k0 ?k1 ?k2 ?k3 ?_; (case k0 => with_reducible exact rfl); (case k1 => constructor <;> omega); (case k2 => constructor <;> omega); (case k3 => decide); k_whole); (try dsimp only)))
local macro_rules | `(tactic| walk_at "compareOp Eq float int") => `(tactic| (k_here; k_dflt (refine' r_eq_fi ?k0 ?k1 ?_; (case k0 => with_reducible exact rfl); (case k1 => constructor <;> omega); k_whole); (try dsimp only)))
local macro_rules | `(tactic| walk_at "compareOp NotEq float int") => `(tactic| (k_here; k_dflt (refine' r_ne_fi ?k0 ?k1 ?_; (case k0 => with_reducible exact rfl); (case k1 => constructor <;> omega); k_whole); (try dsimp only)))
local macro_rules | `(tactic| walk_at "call type:int") => `(tactic| (k_here; k_dflt (refine' r_int ?k0 ?k1 ?k2 ?_; (case k0 => with_reducible exact rfl); (case k1 => constructor <;> omega); (case k2 => omega); k_whole); (try dsimp only)))
set_option hygiene false in
local macro_rules | `(tactic| walk_at "call builtin:divmod") => `(tactic| (k_here; k_dflt (refine' r_divmod ?k1 ?k2 ?k3 ?_ ?kz; (case k1 => k_asm); (case k2 => k_asm); (case k3 => decide); (case kz => exact Or.inl (PyProof.noPylong_small (by omega))); k_whole); intro dq dr h' hdq hdr F' N'; (try dsimp only)))
local macro_rules | `(tactic| walk_at "binaryOp FloorDiv int int") => `(tactic| (k_here; k_dflt (refine' r_fdiv_ii ?k0 ?k1 ?k2 ?_; (case k0 => rfl); (case k1 => decide); (case k2 => exact Or.inl (PyProof.noPylong_small (by omega))); k_whole); (try dsimp only)))
local macro_rules | `(tactic| walk_at "inplaceOp Add ref") => `(tactic| (k_here; (with_reducible show wpAny _ _ (inplaceOp Operator.Add (Value.ref _) (Value.ref _)) _ _ _); k_dflt (refine' iadd_in ?k1 ?k2 ?k3 ?k4 ?k5 ?k6 ?_; (case k1 => k_asm); (case k2 => k_asm); (case k3 => k_mem); (case k4 => k_mem); (case k5 => first | decide | size_fits); (case k6 => k_upd); k_whole); intro h' F' N'; (try k_sweep)))
theorem r_mod_iig {prog : Program} {w : World} {A : Around} {E : Value → Shared → Prop} {s : Shared} {t u : Tok} {Q : Value → Shared → Prop} {a b : Int} (h0 : 0 < b) (h : ∀ i, 0 ≤ i → i < b → Q (.int i s.toks) { s with toks := s.toks + 1 }) : wpAny (model prog w) A (binaryOp .Mod (.int a t) (.int b u)) Q E s :=
  r_mod_ii h0 (h _ (Int.emod_nonneg _ (by omega)) (Int.emod_lt_of_pos _ h0))
set_option hygiene false in
local macro_rules | `(tactic| walk_at "binaryOp Mod int int") => `(tactic| (k_here; k_dflt (refine' r_mod_iig ?k1 ?_; (case k1 => omega); k_whole); (intro mi9 ml9 mh9); (try dsimp only)))
local macro_rules | `(tactic| walk_at "call ref") => `(tactic| (k_here; (with_reducible show wpAny _ _ (PySem.call (Value.ref 209) _ _) _ _ _); k_dflt (refine' Gives.use (c_lny _ _ ?kp) ?k1 ?k2 ?k3 ?k4 ?k5 ?kK ?kd ?ku ?_; (case kp => constructor <;> omega); (case k1 => k_asm); (case k2 => k_asm); (case k3 => k_asm); (case k4 => k_asm); (case k5 => k_asm); (case kK => first | exact rfl | assumption); (case kd => ktr_room); (case ku => ktr_units); k_whole; intro t9 h9 tk9 F9 N9 S9 P9; (try (have cE9 := InElt.then (by with_reducible assumption) S9)); (try clear S9); (try k_sweep); (try dsimp only); (try k_fold))))
local macro_rules | `(tactic| walk_at "call ref") => `(tactic| (k_here; (with_reducible show wpAny _ _ (PySem.call (Value.ref 127) _ _) _ _ _); k_dflt (refine' Gives.use (c_jdh _ _ _ ?kp ?kq) ?k1 ?k2 ?k3 ?k4 ?k5 ?kK ?kd ?ku ?_; (case kp => with_reducible assumption); (case kq => constructor <;> omega); (case k1 => k_asm); (case k2 => k_asm); (case k3 => k_asm); (case k4 => k_asm); (case k5 => k_asm); (case kK => first | exact rfl | assumption); (case kd => ktr_room); (case ku => ktr_units); k_whole; intro t9 h9 tk9 F9 N9 S9 P9; (try (have cE9 := InElt.then (by with_reducible assumption) S9)); (try clear S9); (try k_sweep); (try dsimp only); (try k_fold))))
local macro_rules | `(tactic| walk_at "call ref") => `(tactic| (k_here; (with_reducible show wpAny _ _ (PySem.call (Value.ref 64) _ _) _ _ _); k_dflt (refine' Gives.use (c_gjdn _ _ _ ?kp) ?k1 ?k2 ?k3 ?k4 ?k5 ?kK ?kd ?ku ?_; (case kp => constructor <;> omega); (case k1 => k_asm); (case k2 => k_asm); (case k3 => k_asm); (case k4 => k_asm); (case k5 => k_asm); (case kK => first | exact rfl | assumption); (case kd => ktr_room); (case ku => ktr_units); k_whole; intro t9 h9 tk9 F9 N9 S9 P9; (try (have cE9 := InElt.then (by with_reducible assumption) S9)); (try clear S9); (try k_sweep); (try dsimp only); (try k_fold))))
local macro_rules | `(tactic| walk_at "call ref") => `(tactic| (k_here; (with_reducible show wpAny _ _ (PySem.call (Value.ref 169) _ _) _ _ _); k_dflt (refine' Gives.use (c_day _ _ ?kp) ?k1 ?k2 ?k3 ?k4 ?k5 ?kK ?kd ?ku ?_; (case kp => constructor <;> omega); (case k1 => k_asm); (case k2 => k_asm); (case k3 => k_asm); (case k4 => k_asm); (case k5 => k_asm); (case kK => first | exact rfl | assumption); (case kd => ktr_room); (case ku => ktr_units); k_whole; intro t9 h9 tk9 F9 N9 S9 P9; (try (have cE9 := InElt.then (by with_reducible assumption) S9)); (try clear S9); (try k_sweep); (try dsimp only); (try k_fold))))
local macro_rules | `(tactic| walk_at "call ref") => `(tactic| (k_here; (with_reducible show wpAny _ _ (PySem.call (Value.ref 176) _ _) _ _ _); k_dflt (refine' Gives.use (c_told _ _ ?kp) ?k1 ?k2 ?k3 ?k4 ?k5 ?kK ?kd ?ku ?_; (case kp => constructor <;> omega); (case k1 => k_asm); (case k2 => k_asm); (case k3 => k_asm); (case k4 => k_asm); (case k5 => k_asm); (case kK => first | exact rfl | assumption); (case kd => ktr_room); (case ku => ktr_units); k_whole; intro t9 h9 tk9 F9 N9 S9 P9; (try (have cE9 := InElt.then (by with_reducible assumption) S9)); (try clear S9); (try k_sweep); (try dsimp only); (try k_fold))))
set_option hygiene false in
local macro_rules | `(tactic| walk_at "call ref") => `(tactic| (k_here; (with_reducible show wpAny _ _ (PySem.call (Value.ref 134) _ _) _ _ _); k_dflt (refine' GivesT.useEq (c_fjd _ _ _ _ _ _ ?kp ?kq ?kr) ?k1 ?k2 ?k3 ?k4 ?k5 ?kK ?kd ?ku ?_; (case kp => with_reducible exact rfl); (case kq => with_reducible assumption); (case kr => constructor <;> omega); (case k1 => k_asm); (case k2 => k_asm); (case k3 => k_asm); (case k4 => k_asm); (case k5 => k_asm); (case kK => first | exact rfl | assumption); (case kd => ktr_room); (case ku => ktr_units); k_whole; intro T9 t1 t2 t3 h9 tk9 F9 N9; (try k_sweep); (try dsimp only); (try k_fold))))
set_option hygiene false in
local macro_rules | `(tactic| walk_at "call ref") => `(tactic| (k_here; (with_reducible show wpAny _ _ (PySem.call (Value.ref 71) _ _) _ _ _); k_dflt (refine' GivesT.useEq (c_gfj _ _ _ ?kp ?kq) ?k1 ?k2 ?k3 ?k4 ?k5 ?kK ?kd ?ku ?_; (case kp => with_reducible exact rfl); (case kq => constructor <;> omega); (case k1 => k_asm); (case k2 => k_asm); (case k3 => k_asm); (case k4 => k_asm); (case k5 => k_asm); (case kK => first | exact rfl | assumption); (case kd => ktr_room); (case ku => ktr_units); k_whole; intro T9 t1 t2 t3 h9 tk9 F9 N9; (try k_sweep); (try dsimp only); (try k_fold))))
set_option hygiene false in
local macro_rules | `(tactic| walk_at "call ref") => `(tactic| (k_here; (with_reducible show wpAny _ _ (PySem.call (Value.ref 183) _ _) _ _ _); k_dflt (refine' GivesT.useEq (c_lgreg _ _ ?kp) ?k1 ?k2 ?k3 ?k4 ?k5 ?kK ?kd ?ku ?_; (case kp => constructor <;> omega); (case k1 => k_asm); (case k2 => k_asm); (case k3 => k_asm); (case k4 => k_asm); (case k5 => k_asm); (case kK => first | exact rfl | assumption); (case kd => ktr_room); (case ku => ktr_units); k_whole; intro T9 t1 t2 t3 h9 tk9 F9 N9; (try k_sweep); (try dsimp only); (try k_fold))))
set_option hygiene false in
local macro_rules | `(tactic| walk_at "call ref") => `(tactic| (k_here; (fail_if_success (have m9 : LMark 11 := by with_reducible assumption)); (with_reducible show wpAny _ _ (PySem.call (Value.ref 223) _ _) _ _ _); k_dflt (refine' GivesT.use (c_date _ _ _ _ ?kp ?kq ?kr) ?k1 ?k2 ?k3 ?k4 ?k5 ?kK ?kd ?ku ?_; (case kp => constructor <;> omega); (case kq => omega); (case kr => omega); (case k1 => k_asm); (case k2 => k_asm); (case k3 => k_asm); (case k4 => k_asm); (case k5 => k_asm); (case kK => first | exact rfl | assumption); (case kd => ktr_room); (case ku => ktr_units); k_whole; intro T9 a1 b1 c1 t1 t2 t3 h9 tk9 F9 N9 hD9; obtain ⟨hD1, hDl1, hDh1⟩ := hD9; (have lm11 := lmark 11); (try k_sweep); (try dsimp only); (try k_fold))))
set_option hygiene false in
local macro_rules | `(tactic| walk_at "call ref") => `(tactic| (k_here; (have m8 : LMark 11 := by with_reducible assumption); (try clear m8); (with_reducible show wpAny _ _ (PySem.call (Value.ref 223) _ _) _ _ _); k_dflt (refine' GivesT.use (c_date _ _ _ _ ?kp ?kq ?kr) ?k1 ?k2 ?k3 ?k4 ?k5 ?kK ?kd ?ku ?_; (case kp => constructor <;> omega); (case kq => omega); (case kr => omega); (case k1 => k_asm); (case k2 => k_asm); (case k3 => k_asm); (case k4 => k_asm); (case k5 => k_asm); (case kK => first | exact rfl | assumption); (case kd => ktr_room); (case ku => ktr_units); k_whole; intro T9 a2 b2 c2 t1 t2 t3 h9 tk9 F9 N9 hD9; obtain ⟨hD2, hDl2, hDh2⟩ := hD9; (try k_sweep); (try dsimp only); (try k_fold))))
set_option hygiene false in
local macro_rules | `(tactic| walk_at "eval IfExp") => `(tactic| (k_here; (fail_if_success (have m9 : MMark := by with_reducible assumption)); (with_reducible show wpAny _ _ (eval (Expr.IfExp (Expr.Compare _ [CmpOp.Lt, CmpOp.Lt] _ _) _ _ _) _) _ _ _); k_dflt (refine' meet_at (fun z => 1 ≤ z ∧ z ≤ 100000000) ?k1 ?k2 ?_ ?_; (case k1 => k_asm); (case k2 => k_asm); k_whole); rotate_left; (intro y ty hm9 tkm9 hy9 Fm9 Nm9; (have hy9 : 1 ≤ y ∧ y ≤ 100000000 := hy9); (have hup := lny_up y); (have hbg := lny_big (y := y) (by omega)); (try k_sweep); (try dsimp only); (try k_fold)); rotate_left; (have mm9 := mmark); (try k_fold)))
set_option hygiene false in
local macro_rules | `(tactic| walk_at "exec If") => `(tactic| (k_here; (fail_if_success (have m9 : MMark := by with_reducible assumption)); (with_reducible show wpAny _ _ (exec (Stmt.If (Expr.Compare _ [CmpOp.Eq] _ _) _ _ _) _) _ _ _); k_dflt (refine' smeet_at (Str.ofString "place") (Str.ofString "row") (fun z => 0 ≤ z ∧ z < lny (y + 1) - lny y) ?k1 ?k2 ?_ ?_; (case k1 => k_asm); (case k2 => k_asm)); rotate_left; (intro c9 tc9 u9 h9 tk9 hP9 F9 N9; (have hP9 : 0 ≤ c9 ∧ c9 < lny (y + 1) - lny y := hP9); (try k_sweep); (try dsimp only); (try k_fold)); rotate_left; (have mm9 := mmark); (try k_fold)))
set_option hygiene false in
local macro_rules | `(tactic| walk_at "call ref") => `(tactic| (k_here; (with_reducible show wpAny _ _ (PySem.call (Value.ref 216) _ _) _ _ _); k_dflt (refine' GivesRow2.use (c_row2 _ _ ?kp) ?k1 ?k2 ?k3 ?k4 ?k5 ?kK ?kd ?ku ?_; (case kp => constructor <;> omega); (case k1 => k_asm); (case k2 => k_asm); (case k3 => k_asm); (case k4 => k_asm); (case k5 => k_asm); (case kK => first | exact rfl | assumption); (case kd => ktr_room); (case ku => ktr_units); k_whole; intro ax9 ws9 n9 tl9 h9 tk9 F9 N9 hr9; (have hl9 := hr9.len); (have hl8 := rows_len y); (rw [← hl9] at hl8); (have hl7 : ws9.length ≤ 13 := by omega); (try k_sweep); (try dsimp only); (try k_fold))))
set_option hygiene false in
local macro_rules | `(tactic| walk_at "eval ListComp") => `(tactic| (k_here; (rename Rows _ _ _ => hrr); k_dflt (refine LCp.ListComp_P (F₀ := by k_asm) (by with_unfolding_all rfl) (by decide) (by rfl) (by decide) (by rfl) (by rfl) (by decide) ?_); (try k_fold)))
set_option hygiene false in
local macro_rules | `(tactic| walk_at "call builtin:len") => `(tactic| (k_here; (rename Rows _ _ _ => hrr); k_dflt (refine' kun_lenL (k := (ws9.length : Int)) ?hl ?hk ?hz ?_; (case hl => exact News.isList (by k_asm) (by k_mem)); (case hk => rw [List.size_toArray]); (case hz => omega); k_whole); (try dsimp only)))
set_option hygiene false in
local macro_rules | `(tactic| walk_at "call builtin:sum") => `(tactic| (k_here; k_dflt (refine' sumK ?k0 ?k1 ?k2 ?k3 hz9 ?_; (case k0 => rfl); (case k1 => k_asm); (case k2 => k_asm); (case k3 => exact News.isList (by k_asm) (by k_mem)); k_whole); intro h9 tk9 t9 F9 N9; (try k_sweep); (try dsimp only); (try k_fold)))
theorem see01 : PySem.Challenge.rw_ad5025_01.Holds := hd01 (by
  k_go0
  all_goals (try k_fold)
  k_steps
  all_goals (try (refine Meet.intro (by k_asm) (by k_asm) ?_; first | exact yr_b _ | (constructor <;> omega)))
  all_goals (try (refine SMeet.intro _ (by k_asm) (by k_asm) (fun p hp => hp) ⟨_, rfl⟩ (by first | (with_reducible assumption) | (constructor <;> omega)) ?_; intro z h1 h2; simp only [h1, h2, if_false]; done))
  rename Rows _ _ _ => hrr
  have e9 := pick_upto ws9 (y := 1 + mi9) (by omega)
  have e8 : (slicePick ws9.toArray none (some (1 + mi9)) none).size = (ws9.take (1 + mi9).toNat).length := by rw [← e9, Array.length_toList]
  k_dflt (refine' LCp.SrcLP.ledger ?hh ?F ?N ?m ?z ?_)
  case hh => rfl
  case F => k_asm
  case N => k_asm
  case m => k_mem
  case z => (rw [e8, List.length_take]; exact Nat.le_trans (Nat.le_trans (Nat.min_le_right _ _) hl7) (by decide))
  intro g9
  rw [e8]
  k_dflt (refine comp_pairs (by decide) (fun _ => rfl) (fun _ => rfl) (.inr ⟨_, .head _, rfl, _, rfl⟩) (ws9.take _) ((rowsOf y).take _) 0 [] [] (by rw [List.drop_zero]; exact e9) ((hrr.mono (fun _ h => .tail _ (.tail _ h))).take _) .nil (fun zs9 hz9 D9 h9 tk9 F9 N9 O9 => ?_))
  simp only [List.nil_append] at hz9
  (try k_sweep); (try dsimp only); (try k_fold)
  k_steps
  refine SMeet.intro _ (by k_asm) (by k_asm) (fun p hp => List.mem_cons_of_mem _ (List.mem_cons_of_mem _ (List.mem_cons_of_mem _ (List.mem_append_right _ hp)))) ⟨_, rfl⟩ (rows_part (by omega) (by omega)) ?_
  intro z h1 h2
  simp only [h1, h2, if_false])
end Mine

theorem PySem.Challenge.cw_ad5025_01_holds : PySem.Challenge.rw_ad5025_01.Holds :=
  Mine.see01
