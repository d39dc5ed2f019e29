import PyProof.Rows.All
import Wide.All
import OpenK.AllK
import Wide.FinOn
import Flt.Calls
import Flt.RightMore
import Lean
import PySem.Challenge.RW_pg0104_01
set_option Elab.async false
set_option maxRecDepth 100000
set_option maxHeartbeats 8000000
set_option linter.all false
section
namespace Mine
open PySem

noncomputable abbrev f1 : UInt64 := 4607182418800017408
noncomputable abbrev f2 : UInt64 := 4611686018427387904
noncomputable abbrev f4 : UInt64 := 4616189618054758400
noncomputable abbrev f6 : UInt64 := 4618441417868443648
noncomputable abbrev fHalf : UInt64 := 4602678819172646912
noncomputable abbrev f13 : UInt64 := 4599676419421066581
noncomputable abbrev f16 : UInt64 := 4595172819793696085
noncomputable abbrev f23 : UInt64 := 4604180019048437077
noncomputable abbrev fMu : UInt64 := 4517329193108106637

noncomputable def isLt (x y : UInt64) : Bool := Float64.cmp x y == some .lt
noncomputable def isLe (x y : UInt64) : Bool := Float64.cmp x y == some .lt || Float64.cmp x y == some .eq
noncomputable def isEq (x y : UInt64) : Bool := Float64.cmp x y == some .eq
noncomputable def modF (x : UInt64) : UInt64 := (Float64.divmod x f1).snd
noncomputable def max2F (x y : UInt64) : UInt64 := if (Float64.cmp x y == some .lt) = true then y else x
noncomputable def min2F (x y : UInt64) : UInt64 := if (Float64.cmp y x == some .lt) = true then y else x
noncomputable def max3F (x y z : UInt64) : UInt64 := max2F (max2F x y) z
noncomputable def min3F (x y z : UInt64) : UInt64 := min2F (min2F x y) z

noncomputable def vF (m1 m2 hue : UInt64) : UInt64 :=
  if isLt (modF hue) f16 = true then Float64.add m1 (Float64.mul (Float64.mul (Float64.sub m2 m1) (modF hue)) f6)
  else if isLt (modF hue) fHalf = true then m2
  else if isLt (modF hue) f23 = true then Float64.add m1 (Float64.mul (Float64.mul (Float64.sub m2 m1) (Float64.sub f23 (modF hue))) f6)
  else m1

noncomputable def m2F (l s : UInt64) : UInt64 := if isLe l fHalf = true then Float64.mul l (Float64.add f1 s) else Float64.sub (Float64.add l s) (Float64.mul l s)
noncomputable def m1F (l s : UInt64) : UInt64 := Float64.sub (Float64.mul f2 l) (m2F l s)
noncomputable def hueF (r g b : UInt64) : UInt64 :=
  let mx := max3F r g b
  let rg := Float64.sub mx (min3F r g b)
  let rc := Float64.div (Float64.sub mx r) rg
  let gc := Float64.div (Float64.sub mx g) rg
  let bc := Float64.div (Float64.sub mx b) rg
  modF (Float64.div (if isEq r mx = true then Float64.sub bc gc else if isEq g mx = true then Float64.sub (Float64.add f2 rc) bc else Float64.sub (Float64.add f4 gc) rc) f6)
noncomputable def lightF (r g b : UInt64) : UInt64 := Float64.div (Float64.add (max3F r g b) (min3F r g b)) f2
noncomputable def satF (r g b : UInt64) : UInt64 :=
  let mx := max3F r g b
  let mn := min3F r g b
  if isLe (lightF r g b) fHalf = true then Float64.div (Float64.sub mx mn) (Float64.add mx mn) else Float64.div (Float64.sub mx mn) (Float64.sub (Float64.sub f2 mx) mn)
noncomputable def satV (r g b : UInt64) : UInt64 := Float64.div (Float64.sub (max3F r g b) (min3F r g b)) (max3F r g b)

noncomputable def iF (h : UInt64) : Int := Flt.toInt Float64.truncOf (Float64.mul h f6)
noncomputable def frF (h : UInt64) : UInt64 := Float64.sub (Float64.mul h f6) (Float64.ofInt (iF h))
noncomputable def pF (s v : UInt64) : UInt64 := Float64.mul v (Float64.sub f1 s)
noncomputable def qF (h s v : UInt64) : UInt64 := Float64.mul v (Float64.sub f1 (Float64.mul s (frF h)))
noncomputable def tF (h s v : UInt64) : UInt64 := Float64.mul v (Float64.sub f1 (Float64.mul s (Float64.sub f1 (frF h))))
noncomputable def hsv2rgbF (h s v : UInt64) : UInt64 × UInt64 × UInt64 :=
  if (iF h).fmod 6 = 0 then (v, tF h s v, pF s v) else if (iF h).fmod 6 = 1 then (qF h s v, v, pF s v) else if (iF h).fmod 6 = 2 then (pF s v, v, tF h s v)
  else if (iF h).fmod 6 = 3 then (pF s v, qF h s v, v) else if (iF h).fmod 6 = 4 then (tF h s v, pF s v, v) else (v, pF s v, qF h s v)

noncomputable def ratF (p q : Int) : UInt64 := Float64.ofFrac (decide (p < 0) != decide (q < 0)) p.natAbs q.natAbs
noncomputable def nearF (x y : UInt64) : Bool := Float64.cmp (Float64.abs (Float64.sub x y)) fMu == some .lt

noncomputable abbrev Col := UInt64 × UInt64 × UInt64
noncomputable def hlsStep (k : Col) (c o : Int) : Col :=
  let h := Float64.add (hueF k.1 k.2.1 k.2.2) (ratF o c)
  let l := lightF k.1 k.2.1 k.2.2
  let s := satF k.1 k.2.1 k.2.2
  (vF (m1F l s) (m2F l s) (Float64.add h f13), vF (m1F l s) (m2F l s) h, vF (m1F l s) (m2F l s) (Float64.sub h f13))
noncomputable def hsvStep (k : Col) (c o : Int) : Col := hsv2rgbF (Float64.add (hueF k.1 k.2.1 k.2.2) (ratF o c)) (satV k.1 k.2.1 k.2.2) (max3F k.1 k.2.1 k.2.2)
/-- the colour to which the walk has come behind t steps -/
noncomputable def colAt (c f o1 o2 : Int) : Nat → Col
  | 0 => hsv2rgbF (ratF f c) f1 f1
  | t + 1 => if t % 2 = 0 then hlsStep (colAt c f o1 o2 t) c o1 else hsvStep (colAt c f o1 o2 t) c o2
noncomputable def hueAt (c f o1 o2 : Int) (t : Nat) : UInt64 := hueF (colAt c f o1 o2 t).1 (colAt c f o1 o2 t).2.1 (colAt c f o1 o2 t).2.2
end Mine
end
section
namespace Mine.Fl
open PySem PySem.Float64

theorem V_ex : ∀ (k q : Nat), q ≤ 2 ^ 53 → ∃ t, V t = q * 2 ^ k
  | 0, q, h => ⟨q, by have := V_at (k := 0) (q := q) h (.inr rfl); simpa using this⟩
  | k + 1, q, h => by
    by_cases h2 : 2 ^ 52 ≤ q
    · exact ⟨_, V_at h (.inl h2)⟩
    · obtain ⟨t, ht⟩ := V_ex k (2 * q) (by omega)
      exact ⟨t, by rw [ht, Nat.pow_succ]; ac_rfl⟩

theorem not_inf {D W : Nat} (hD : 0 < D) (hW : W ≤ D * 2 ^ 1080) : ¬ D * ((2 ^ 54 - 1) * 2 ^ 2045) ≤ 2 * W := by
  intro h
  have h1 : D * ((2 ^ 54 - 1) * 2 ^ 2045) ≤ D * (2 * 2 ^ 1080) := by
    refine Nat.le_trans h (Nat.le_trans (Nat.mul_le_mul_left 2 hW) ?_)
    rw [Nat.mul_left_comm]; exact Nat.le_refl _
  have h2 := Nat.le_of_mul_le_mul_left h1 hD
  exact absurd h2 (by decide +kernel)

theorem near_q {W D P : Nat} (hD : 0 < D) (hP : 0 < P) (hW : W ≤ D * (2 ^ 53 * P)) : W / (D * P) ≤ 2 ^ 53 ∧ dist W (D * (W / (D * P) * P)) ≤ D * P := by
  have hDP : 0 < D * P := Nat.mul_pos hD hP
  constructor
  · refine Nat.le_of_lt_succ ((Nat.div_lt_iff_lt_mul hDP).mpr ?_)
    have : D * (2 ^ 53 * P) = 2 ^ 53 * (D * P) := by ac_rfl
    rw [this] at hW
    have h3 : (2 ^ 53).succ * (D * P) = 2 ^ 53 * (D * P) + D * P := Nat.succ_mul _ _
    omega
  · have e : D * (W / (D * P) * P) = D * P * (W / (D * P)) := by ac_rfl
    rw [e]
    have h1 := Nat.div_add_mod W (D * P)
    have h2 := Nat.mod_lt W hDP
    unfold dist
    omega

theorem right_near {r : UInt64} {neg : Bool} {W D : Nat} (h : Right r neg W D) (hD : 0 < D) (hW : W ≤ D * 2 ^ 1080) :
    (∃ a m e, decode r = .fin a m e) ∧ ∃ t, val r = sgn neg (V t) ∧ dist W (D * V t) ≤ D * 2 ^ 1027 ∧ ∀ t', dist W (D * V t) ≤ dist W (D * V t') := by
  obtain ⟨t, rfl, hle, hinf, hmin⟩ := h
  have hlt : t < infMag := by
    refine Nat.lt_of_le_of_ne hle fun e => ?_
    exact not_inf hD hW (hinf.mp e)
  obtain ⟨m, e, hd, hv⟩ := decode_pack neg hlt
  refine ⟨⟨_, _, _, hd⟩, t, val_pack neg hlt, ?_, fun t' => (hmin hlt t').1⟩
  have hW' : W ≤ D * (2 ^ 53 * 2 ^ 1027) := by
    refine Nat.le_trans hW (Nat.mul_le_mul_left D (Nat.le_of_eq ?_))
    rw [← Nat.pow_add]
  obtain ⟨hq, hd2⟩ := near_q hD (Nat.two_pow_pos 1027) hW'
  obtain ⟨t', ht'⟩ := V_ex 1027 _ hq
  have := (hmin hlt t').1
  rw [ht'] at this
  exact Nat.le_trans this hd2

/-- the rounded magnitude does not pass a representable bound -/
theorem near_le {W D n v : Nat} (hD : 0 < D) (hmin : dist W (D * v) ≤ dist W (D * n)) (h : W ≤ D * n) : v ≤ n := by
  apply Nat.le_of_not_lt
  intro hlt
  have h1 : D * n + D ≤ D * v := by
    have := Nat.mul_le_mul_left D (Nat.succ_le_of_lt hlt)
    rw [Nat.mul_succ] at this; exact this
  unfold dist at hmin
  have h2 : D * n < D * v := Nat.lt_of_lt_of_le (Nat.lt_add_of_pos_right hD) h1
  rw [Nat.sub_eq_zero_of_le h, Nat.zero_add, Nat.sub_eq_zero_of_le (Nat.le_trans h (Nat.le_of_lt h2)), Nat.zero_add] at hmin
  exact absurd hmin (Nat.not_le.mpr (Nat.sub_lt_sub_right h h2))

theorem absSub (a b : Nat) : ((a : Int) - (b : Int)).natAbs = a - b + (b - a) := by omega
theorem sgn_near {W D v : Nat} {neg : Bool} {B : Nat} (h : dist W (D * v) ≤ B) : (sgn neg W - (D : Int) * sgn neg v).natAbs ≤ B := by
  unfold dist at h
  have e : ((D * v : Nat) : Int) = (D : Int) * (v : Int) := by simp
  cases neg
  · show ((W : Int) - (D : Int) * (v : Int)).natAbs ≤ B
    rw [← e, absSub]; exact h
  · show (-(W : Int) - (D : Int) * -(v : Int)).natAbs ≤ B
    rw [Int.mul_neg, ← e, show -(W : Int) - -((D * v : Nat) : Int) = -((W : Int) - ((D * v : Nat) : Int)) by rw [Int.neg_sub, Int.sub_neg, Int.add_comm, Int.sub_eq_add_neg], Int.natAbs_neg, absSub]; exact h

@[irreducible] def BK : Nat := 2 ^ 1074
theorem BK_pos : 0 < BK := by unfold BK; exact Nat.two_pow_pos _
theorem BK_split : BK = 2 ^ 47 * 2 ^ 1027 := by unfold BK; rw [← Nat.pow_add]
theorem BK_64 : 64 * BK = 2 ^ 1080 := by unfold BK; rw [show (64 : Nat) = 2 ^ 6 from rfl, ← Nat.pow_add]
noncomputable def Fi (x : UInt64) : Prop := ∃ a m e, decode x = .fin a m e
noncomputable def rv (x : UInt64) : Rat := (val x : Rat) / (BK : Rat)
noncomputable abbrev dl : Rat := 1 / 140737488355328
noncomputable def Nr (a b e : Rat) : Prop := a - b ≤ e ∧ b - a ≤ e

theorem fi_of {x : UInt64} (h : isFinite x = true) : Fi x := by
  unfold isFinite at h
  cases hd : decode x with
  | nan => rw [hd] at h; cases h
  | inf s => rw [hd] at h; cases h
  | fin a m e => exact ⟨_, _, _, hd⟩
theorem BKq_pos : (0 : Rat) < (BK : Rat) := by exact_mod_cast BK_pos
theorem BKq_ne : (BK : Rat) ≠ 0 := by have := BKq_pos; grind

/-- from a bound in whole numbers to one over the rationals -/
theorem rat_near {D : Nat} {z v : Int} (hD : 0 < D) (h : (z - (D : Int) * v).natAbs ≤ D * 2 ^ 1027) :
    (z : Rat) / (BK : Rat) - (D : Rat) * ((v : Rat) / (BK : Rat)) ≤ (D : Rat) * dl ∧ (D : Rat) * ((v : Rat) / (BK : Rat)) - (z : Rat) / (BK : Rat) ≤ (D : Rat) * dl := by
  have hb : (0 : Rat) < (BK : Rat) := BKq_pos
  have h47 : (140737488355328 : Rat) * ((2 ^ 1027 : Nat) : Rat) = (BK : Rat) := by
    rw [BK_split, Rat.natCast_mul]; rfl
  generalize (2 : Nat) ^ 1027 = P at h h47
  have hi1 : z - (D : Int) * v ≤ (D : Int) * (P : Int) := by
    have : ((D * P : Nat) : Int) = (D : Int) * (P : Int) := by simp
    rw [← this]; omega
  have hi2 : (D : Int) * v - z ≤ (D : Int) * (P : Int) := by
    have : ((D * P : Nat) : Int) = (D : Int) * (P : Int) := by simp
    rw [← this]; omega
  have hr1 : (z : Rat) - (D : Rat) * (v : Rat) ≤ (D : Rat) * (P : Rat) := by exact_mod_cast hi1
  have hr2 : (D : Rat) * (v : Rat) - (z : Rat) ≤ (D : Rat) * (P : Rat) := by exact_mod_cast hi2
  have hne : (BK : Rat) ≠ 0 := by grind
  have hi : (BK : Rat) * (BK : Rat)⁻¹ = 1 := Rat.mul_inv_cancel _ hne
  have hip : (0 : Rat) < (BK : Rat)⁻¹ := Rat.inv_pos.mpr hb
  rw [Rat.div_def, Rat.div_def]
  generalize (BK : Rat)⁻¹ = i at *
  have hPi : (P : Rat) * i = dl := by grind
  have p1 := Rat.mul_nonneg (show (0 : Rat) ≤ (D : Rat) * (P : Rat) - ((z : Rat) - (D : Rat) * (v : Rat)) by grind) (Rat.le_of_lt hip)
  have p2 := Rat.mul_nonneg (show (0 : Rat) ≤ (D : Rat) * (P : Rat) - ((D : Rat) * (v : Rat) - (z : Rat)) by grind) (Rat.le_of_lt hip)
  have e1 : (D : Rat) * (P : Rat) * i = (D : Rat) * dl := by rw [Rat.mul_assoc, hPi]
  constructor <;> grind

theorem sgn_self (z : Int) : sgn (decide (z < 0)) z.natAbs = z := by
  unfold sgn; by_cases h : z < 0 <;> simp [h] <;> omega

theorem rv_le_iff {x y : UInt64} : val x ≤ val y ↔ rv x ≤ rv y := by
  have hb := BKq_pos
  unfold rv
  constructor
  · intro h
    have h' : (val x : Rat) ≤ (val y : Rat) := by exact_mod_cast h
    rw [Rat.div_def, Rat.div_def]
    exact Rat.mul_le_mul_of_nonneg_right h' (Rat.le_of_lt (Rat.inv_pos.mpr hb))
  · intro h
    have := Rat.mul_le_mul_of_nonneg_right h (Rat.le_of_lt hb)
    rw [Rat.div_mul_cancel BKq_ne, Rat.div_mul_cancel BKq_ne] at this
    exact_mod_cast this
theorem rv_lt_iff {x y : UInt64} : val x < val y ↔ rv x < rv y := by
  rw [← Int.not_le, ← Rat.not_le, rv_le_iff]
theorem rv_eq_iff {x y : UInt64} : val x = val y ↔ rv x = rv y := by
  constructor
  · intro h; unfold rv; rw [h]
  · intro h
    have h1 := (rv_le_iff (x := x) (y := y)).mpr (by grind)
    have h2 := (rv_le_iff (x := y) (y := x)).mpr (by grind)
    omega

theorem cmp_lt {x y : UInt64} (hx : Fi x) (hy : Fi y) : (cmp x y == some .lt) = true ↔ rv x < rv y := by
  obtain ⟨_, _, _, hx⟩ := hx
  obtain ⟨_, _, _, hy⟩ := hy
  rw [cmp_right hx hy, ← rv_lt_iff]
  simp [Int.compare_eq_lt]
theorem cmp_eq {x y : UInt64} (hx : Fi x) (hy : Fi y) : (cmp x y == some .eq) = true ↔ rv x = rv y := by
  obtain ⟨_, _, _, hx⟩ := hx
  obtain ⟨_, _, _, hy⟩ := hy
  rw [cmp_right hx hy, ← rv_eq_iff]
  simp [Int.compare_eq_eq]

theorem val_bound {x : UInt64} {n : Nat} (h1 : rv x ≤ (n : Rat)) (h2 : -(n : Rat) ≤ rv x) : (val x).natAbs ≤ n * BK := by
  have hb := BKq_pos
  have g1 := Rat.mul_le_mul_of_nonneg_right h1 (Rat.le_of_lt hb)
  have g2 := Rat.mul_le_mul_of_nonneg_right h2 (Rat.le_of_lt hb)
  unfold rv at g1 g2
  rw [Rat.div_mul_cancel BKq_ne] at g1 g2
  have k1 : val x ≤ (n : Int) * (BK : Int) := by exact_mod_cast g1
  have k2 : -(n : Int) * (BK : Int) ≤ val x := Rat.intCast_le_intCast.mp (by rw [Rat.intCast_mul]; exact g2)
  have e : ((n * BK : Nat) : Int) = (n : Int) * (BK : Int) := by simp
  rw [Int.neg_mul] at k2
  omega

/-- a sum, rounded -/
theorem of_right1 {r : UInt64} {z : Int} (h0 : z = 0 → (∃ b, r = zero b)) (h : z ≠ 0 → Right r (decide (z < 0)) z.natAbs 1) (hz : z.natAbs ≤ 64 * BK) :
    Fi r ∧ Nr (rv r) ((z : Rat) / (BK : Rat)) dl ∧ (0 ≤ z → 0 ≤ rv r) ∧ (z ≤ 0 → rv r ≤ 0) ∧ (z.natAbs ≤ BK → rv r ≤ 1 ∧ -1 ≤ rv r) := by
  have hb := BKq_pos
  have hne : (BK : Rat) ≠ 0 := by grind
  have hip : (0 : Rat) < (BK : Rat)⁻¹ := Rat.inv_pos.mpr hb
  by_cases hz0 : z = 0
  · obtain ⟨b, rfl⟩ := h0 hz0
    have hv : val (zero b) = 0 := by cases b <;> decide +kernel
    have hf : Fi (zero b) := fi_of (by cases b <;> decide +kernel)
    have hr : rv (zero b) = 0 := by unfold rv; rw [hv, Rat.div_def]; simp
    subst hz0
    refine ⟨hf, ?_, ?_, ?_, ?_⟩
    · rw [hr, Rat.div_def]; constructor <;> simp <;> decide +kernel
    · intro _; rw [hr]; exact Rat.le_refl
    · intro _; rw [hr]; exact Rat.le_refl
    · intro _; rw [hr]; constructor <;> decide +kernel
  · have hW : z.natAbs ≤ 1 * 2 ^ 1080 := by rw [Nat.one_mul, ← BK_64]; exact hz
    obtain ⟨hf, t, hv, hd, hmin⟩ := right_near (h hz0) (by decide) hW
    have hs := sgn_near (neg := decide (z < 0)) hd
    rw [sgn_self, ← hv] at hs
    have hn := rat_near (by decide) hs
    refine ⟨hf, ?_, ?_, ?_, ?_⟩
    · unfold Nr rv
      have e1 : ((1 : Nat) : Rat) = 1 := rfl
      rw [e1] at hn
      constructor <;> grind
    · intro hp
      have : val r = (V t : Int) := by rw [hv]; simp [sgn, show ¬ z < 0 by omega]
      unfold rv
      rw [this, Rat.div_def]
      refine Rat.mul_nonneg ?_ (Rat.le_of_lt hip)
      exact_mod_cast Nat.zero_le _
    · intro hp
      have : val r = -(V t : Int) := by rw [hv]; simp [sgn, show z < 0 by omega]
      unfold rv
      rw [this, Rat.div_def]
      have q := Rat.mul_nonneg (show (0 : Rat) ≤ ((V t : Nat) : Rat) by exact_mod_cast Nat.zero_le _) (Rat.le_of_lt hip)
      have e2 : ((-(V t : Int) : Int) : Rat) = -((V t : Nat) : Rat) := rfl
      rw [e2]; grind
    · intro hle
      obtain ⟨t', ht'⟩ := V_ex 1074 1 (by decide)
      have hq := hmin t'
      rw [ht'] at hq
      have hle' : V t ≤ BK := by
        have := near_le (n := 1 * 2 ^ 1074) (by decide) hq (by rw [Nat.one_mul, Nat.one_mul]; unfold BK at hle; exact hle)
        rw [Nat.one_mul] at this; unfold BK; exact this
      have ha : (val r).natAbs = V t := by rw [hv, sgn_natAbs]
      have b1 : val r ≤ (BK : Int) := by omega
      have b2 : -(BK : Int) ≤ val r := by omega
      have c1 : (val r : Rat) ≤ (BK : Rat) := by exact_mod_cast b1
      have c2 : -(BK : Rat) ≤ (val r : Rat) := Rat.intCast_le_intCast.mpr b2
      unfold rv
      rw [Rat.div_def]
      have hi : (BK : Rat) * (BK : Rat)⁻¹ = 1 := Rat.mul_inv_cancel _ hne
      have p1 := Rat.mul_le_mul_of_nonneg_right c1 (Rat.le_of_lt hip)
      have p2 := Rat.mul_le_mul_of_nonneg_right c2 (Rat.le_of_lt hip)
      constructor <;> grind

theorem rv_add_int (a b : Int) : ((a + b : Int) : Rat) / (BK : Rat) = (a : Rat) / (BK : Rat) + (b : Rat) / (BK : Rat) := by
  rw [Rat.div_def, Rat.div_def, Rat.div_def]; simp; grind
theorem rv_sub_int (a b : Int) : ((a - b : Int) : Rat) / (BK : Rat) = (a : Rat) / (BK : Rat) - (b : Rat) / (BK : Rat) := by
  rw [Rat.div_def, Rat.div_def, Rat.div_def]; simp; grind

theorem int_bound {z : Int} {n : Nat} (h1 : (z : Rat) / (BK : Rat) ≤ (n : Rat)) (h2 : -(n : Rat) ≤ (z : Rat) / (BK : Rat)) : z.natAbs ≤ n * BK := by
  have hb := BKq_pos
  have g1 := Rat.mul_le_mul_of_nonneg_right h1 (Rat.le_of_lt hb)
  have g2 := Rat.mul_le_mul_of_nonneg_right h2 (Rat.le_of_lt hb)
  rw [Rat.div_mul_cancel BKq_ne] at g1 g2
  have k1 : z ≤ (n : Int) * (BK : Int) := by exact_mod_cast g1
  have k2 : -(n : Int) * (BK : Int) ≤ z := Rat.intCast_le_intCast.mp (by rw [Rat.intCast_mul]; exact g2)
  have e : ((n * BK : Nat) : Int) = (n : Int) * (BK : Int) := by simp
  rw [Int.neg_mul] at k2
  omega
theorem int_nonneg {z : Int} (h : 0 ≤ (z : Rat) / (BK : Rat)) : 0 ≤ z := by
  have hb := BKq_pos
  have g1 := Rat.mul_le_mul_of_nonneg_right h (Rat.le_of_lt hb)
  rw [Rat.div_mul_cancel BKq_ne, Rat.zero_mul] at g1
  exact_mod_cast g1
theorem int_nonpos {z : Int} (h : (z : Rat) / (BK : Rat) ≤ 0) : z ≤ 0 := by
  have hb := BKq_pos
  have g1 := Rat.mul_le_mul_of_nonneg_right h (Rat.le_of_lt hb)
  rw [Rat.div_mul_cancel BKq_ne, Rat.zero_mul] at g1
  exact_mod_cast g1

theorem add_f {x y : UInt64} (hx : Fi x) (hy : Fi y) (h1 : rv x + rv y ≤ 64) (h2 : -64 ≤ rv x + rv y) :
    Fi (add x y) ∧ Nr (rv (add x y)) (rv x + rv y) dl ∧ (0 ≤ rv x + rv y → 0 ≤ rv (add x y)) ∧ (rv x + rv y ≤ 0 → rv (add x y) ≤ 0) ∧ (rv x + rv y ≤ 1 → -1 ≤ rv x + rv y → rv (add x y) ≤ 1 ∧ -1 ≤ rv (add x y)) := by
  obtain ⟨_, _, _, hx⟩ := hx
  obtain ⟨_, _, _, hy⟩ := hy
  have hr := add_right hx hy
  have e : ((val x + val y : Int) : Rat) / (BK : Rat) = rv x + rv y := rv_add_int _ _
  have := of_right1 (r := add x y) (fun h => ⟨_, hr.1 h⟩) hr.2 (int_bound (n := 64) (by rw [e]; exact h1) (by rw [e]; exact h2))
  rw [e] at this
  refine ⟨this.1, this.2.1, fun h => this.2.2.1 (int_nonneg (by rw [e]; exact h)), fun h => this.2.2.2.1 (int_nonpos (by rw [e]; exact h)), fun ha hb => this.2.2.2.2 ?_⟩
  have := int_bound (z := val x + val y) (n := 1) (by rw [e]; exact ha) (by rw [e]; exact hb)
  rwa [Nat.one_mul] at this
theorem sub_f {x y : UInt64} (hx : Fi x) (hy : Fi y) (h1 : rv x - rv y ≤ 64) (h2 : -64 ≤ rv x - rv y) :
    Fi (sub x y) ∧ Nr (rv (sub x y)) (rv x - rv y) dl ∧ (0 ≤ rv x - rv y → 0 ≤ rv (sub x y)) ∧ (rv x - rv y ≤ 0 → rv (sub x y) ≤ 0) := by
  obtain ⟨_, _, _, hx⟩ := hx
  obtain ⟨_, _, _, hy⟩ := hy
  have hr := sub_right hx hy
  have e : ((val x - val y : Int) : Rat) / (BK : Rat) = rv x - rv y := rv_sub_int _ _
  have := of_right1 (r := sub x y) (fun h => ⟨_, hr.1 h⟩) hr.2 (int_bound (n := 64) (by rw [e]; exact h1) (by rw [e]; exact h2))
  rw [e] at this
  exact ⟨this.1, this.2.1, fun h => this.2.2.1 (int_nonneg (by rw [e]; exact h)), fun h => this.2.2.2.1 (int_nonpos (by rw [e]; exact h))⟩

theorem sgn_mul2 (a b : Bool) (p q : Nat) : sgn (a != b) (p * q) = sgn a p * sgn b q := by
  cases a <;> cases b <;> simp [sgn, Int.natCast_mul, Int.neg_mul, Int.mul_neg]

theorem near_scale {k a b : Rat} (hk : 0 < k) (h1 : k * a - k * b ≤ k * dl) (h2 : k * b - k * a ≤ k * dl) : Nr b a dl := by
  have hi : k * k⁻¹ = 1 := Rat.mul_inv_cancel _ (by grind)
  have hip : (0 : Rat) < k⁻¹ := Rat.inv_pos.mpr hk
  have p1 := Rat.mul_nonneg (show (0 : Rat) ≤ k * dl - (k * a - k * b) by grind) (Rat.le_of_lt hip)
  have p2 := Rat.mul_nonneg (show (0 : Rat) ≤ k * dl - (k * b - k * a) by grind) (Rat.le_of_lt hip)
  have e1 : (k * dl - (k * a - k * b)) * k⁻¹ = dl - (a - b) := by
    have : (k * dl - (k * a - k * b)) * k⁻¹ = (k * k⁻¹) * (dl - (a - b)) := by grind
    rw [this, hi]; grind
  have e2 : (k * dl - (k * b - k * a)) * k⁻¹ = dl - (b - a) := by
    have : (k * dl - (k * b - k * a)) * k⁻¹ = (k * k⁻¹) * (dl - (b - a)) := by grind
    rw [this, hi]; grind
  rw [e1] at p1
  rw [e2] at p2
  constructor <;> grind

theorem rv_mul (x : UInt64) : rv x * (BK : Rat) = (val x : Rat) := by
  unfold rv; rw [Rat.div_mul_cancel]; have := BKq_pos; grind

theorem natAbs_le_of {z : Int} {n : Nat} (h1 : (z : Rat) ≤ (n : Rat)) (h2 : -(n : Rat) ≤ (z : Rat)) : z.natAbs ≤ n := by
  have k1 : z ≤ (n : Int) := Rat.intCast_le_intCast.mp h1
  have k2 : -(n : Int) ≤ z := Rat.intCast_le_intCast.mp h2
  omega

theorem mul_f {x y : UInt64} (hx : Fi x) (hy : Fi y) (h1 : rv x * rv y ≤ 64) (h2 : -64 ≤ rv x * rv y) : Fi (mul x y) ∧ Nr (rv (mul x y)) (rv x * rv y) dl := by
  obtain ⟨a, m, e, hx⟩ := hx
  obtain ⟨b, k, f, hy⟩ := hy
  have hb := BKq_pos
  have hr := mul_right hx hy
  have ex := rv_mul x
  have ey := rv_mul y
  have hbb := Rat.mul_pos hb hb
  have hprod : (val x : Rat) * (val y : Rat) = (rv x * rv y) * ((BK : Rat) * (BK : Rat)) := by rw [← ex, ← ey]; grind
  have hz : (val x * val y).natAbs ≤ BK * (64 * BK) := by
    refine natAbs_le_of ?_ ?_
    · have p := Rat.mul_nonneg (show (0 : Rat) ≤ 64 - rv x * rv y by grind) (Rat.le_of_lt hbb)
      have e1 : ((BK * (64 * BK) : Nat) : Rat) = (BK : Rat) * (64 * (BK : Rat)) := by simp
      rw [Rat.intCast_mul, e1, hprod]; grind
    · have p := Rat.mul_nonneg (show (0 : Rat) ≤ 64 + rv x * rv y by grind) (Rat.le_of_lt hbb)
      have e1 : ((BK * (64 * BK) : Nat) : Rat) = (BK : Rat) * (64 * (BK : Rat)) := by simp
      rw [Rat.intCast_mul, e1, hprod]; grind
  have hs0 : sgn (a != b) ((val x).natAbs * (val y).natAbs) = val x * val y := by
    rw [val_natAbs hx, val_natAbs hy, sgn_mul2, ← val_eq hx, ← val_eq hy]
  have hD : (2 : Nat) ^ 1074 = BK := by unfold BK; rfl
  rw [hD] at hr
  obtain ⟨hf, t, hv, hd, hmin⟩ := right_near hr BK_pos (by rw [← BK_64, ← Int.natAbs_mul]; exact hz)
  have hs := sgn_near (neg := (a != b)) hd
  rw [hs0, ← hv] at hs
  have hn := rat_near BK_pos hs
  refine ⟨hf, near_scale (k := (BK : Rat)) hb ?_ ?_⟩
  · have e1 : ((val x * val y : Int) : Rat) / (BK : Rat) = (BK : Rat) * (rv x * rv y) := by
      rw [Rat.intCast_mul, hprod, ← Rat.mul_assoc, Rat.mul_div_cancel BKq_ne]; grind
    rw [e1] at hn
    exact hn.1
  · have e1 : ((val x * val y : Int) : Rat) / (BK : Rat) = (BK : Rat) * (rv x * rv y) := by
      rw [Rat.intCast_mul, hprod, ← Rat.mul_assoc, Rat.mul_div_cancel BKq_ne]; grind
    rw [e1] at hn
    exact hn.2

theorem of_frac {r : UInt64} {neg : Bool} {z : Int} {D : Nat} (hD : 0 < D) (h : Right r neg (z.natAbs * BK) D) (hs : sgn neg (z.natAbs * BK) = z * (BK : Int)) (hz : z.natAbs ≤ 64 * D) :
    Fi r ∧ (z : Rat) - (D : Rat) * rv r ≤ (D : Rat) * dl ∧ (D : Rat) * rv r - (z : Rat) ≤ (D : Rat) * dl := by
  have hb := BKq_pos
  obtain ⟨hf, t, hv, hd, hmin⟩ := right_near h hD (by
    rw [← BK_64]
    have := Nat.mul_le_mul_right BK hz
    have e : 64 * D * BK = D * (64 * BK) := by ac_rfl
    rwa [e] at this)
  have hs' := sgn_near (neg := neg) hd
  rw [hs, ← hv] at hs'
  have hn := rat_near hD hs'
  have e1 : ((z * (BK : Int) : Int) : Rat) / (BK : Rat) = (z : Rat) := by
    rw [Rat.intCast_mul]; exact Rat.mul_div_cancel BKq_ne
  rw [e1] at hn
  exact ⟨hf, hn.1, hn.2⟩

theorem sgn_BK {a : Bool} {p : Nat} {z : Int} (h : z = sgn a p) : sgn a (z.natAbs * BK) = z * (BK : Int) := by
  rw [h, sgn_natAbs]
  cases a <;> simp [sgn, Int.natCast_mul, Int.neg_mul]

theorem div_f {x y : UInt64} (hx : Fi x) (hy : Fi y) (hp : 0 < rv y) (h1 : rv x ≤ 64 * rv y) (h2 : -(64 * rv y) ≤ rv x) :
    Fi (div x y) ∧ rv x - rv y * rv (div x y) ≤ rv y * dl ∧ rv y * rv (div x y) - rv x ≤ rv y * dl := by
  obtain ⟨a, m, e, hx⟩ := hx
  obtain ⟨b, k, f, hy⟩ := hy
  have hb := BKq_pos
  have ex := rv_mul x
  have ey := rv_mul y
  have hvy : 0 < val y := by
    have : (0 : Rat) < (val y : Rat) := by rw [← ey]; exact Rat.mul_pos hp hb
    exact Rat.intCast_pos.mp this
  have hbf : b = false := by
    cases b with
    | false => rfl
    | true =>
      have := val_eq hy
      simp only [sgn, if_true] at this
      omega
  subst hbf
  have hk : k ≠ 0 := by
    intro h0
    have := val_eq hy
    rw [h0] at this
    simp [sgn] at this
    omega
  have hr := div_right hx hy hk
  have hneg : (a != false) = a := by cases a <;> rfl
  rw [hneg] at hr
  have hD : (2 : Nat) ^ 1074 = BK := by unfold BK; rfl
  rw [hD] at hr
  have hDy : ((val y).natAbs : Int) = val y := by omega
  have hDq : ((val y).natAbs : Rat) = (val y : Rat) := by
    have : (((val y).natAbs : Int) : Rat) = (val y : Rat) := by rw [hDy]
    exact this
  have hz : (val x).natAbs ≤ 64 * (val y).natAbs := by
    refine natAbs_le_of ?_ ?_
    · have p := Rat.mul_nonneg (show (0 : Rat) ≤ 64 * rv y - rv x by grind) (Rat.le_of_lt hb)
      have e1 : ((64 * (val y).natAbs : Nat) : Rat) = 64 * (val y : Rat) := by rw [Rat.natCast_mul, hDq]; rfl
      rw [e1, ← ex, ← ey]; grind
    · have p := Rat.mul_nonneg (show (0 : Rat) ≤ 64 * rv y + rv x by grind) (Rat.le_of_lt hb)
      have e1 : ((64 * (val y).natAbs : Nat) : Rat) = 64 * (val y : Rat) := by rw [Rat.natCast_mul, hDq]; rfl
      rw [e1, ← ex, ← ey]; grind
  obtain ⟨hf, n1, n2⟩ := of_frac (z := val x) (by omega) hr (sgn_BK (val_eq hx)) hz
  rw [hDq] at n1 n2
  rw [← ex, ← ey] at n1 n2
  have hi : (BK : Rat) * (BK : Rat)⁻¹ = 1 := Rat.mul_inv_cancel _ BKq_ne
  have hip : (0 : Rat) < (BK : Rat)⁻¹ := Rat.inv_pos.mpr hb
  generalize rv (div x y) = d at *
  have p1 := Rat.mul_nonneg (show (0 : Rat) ≤ rv y * (BK : Rat) * dl - (rv x * (BK : Rat) - rv y * (BK : Rat) * d) by grind) (Rat.le_of_lt hip)
  have p2 := Rat.mul_nonneg (show (0 : Rat) ≤ rv y * (BK : Rat) * dl - (rv y * (BK : Rat) * d - rv x * (BK : Rat)) by grind) (Rat.le_of_lt hip)
  refine ⟨hf, ?_, ?_⟩
  · have : (rv y * (BK : Rat) * dl - (rv x * (BK : Rat) - rv y * (BK : Rat) * d)) * (BK : Rat)⁻¹ = ((BK : Rat) * (BK : Rat)⁻¹) * (rv y * dl - (rv x - rv y * d)) := by grind
    rw [this, hi] at p1; grind
  · have : (rv y * (BK : Rat) * dl - (rv y * (BK : Rat) * d - rv x * (BK : Rat))) * (BK : Rat)⁻¹ = ((BK : Rat) * (BK : Rat)⁻¹) * (rv y * dl - (rv y * d - rv x)) := by grind
    rw [this, hi] at p2; grind

theorem rat_f {p q : Int} (hq : 0 < q) (h : p.natAbs ≤ 64 * q.natAbs) : Fi (ratF p q) ∧ (p : Rat) - (q : Rat) * rv (ratF p q) ≤ (q : Rat) * dl ∧ (q : Rat) * rv (ratF p q) - (p : Rat) ≤ (q : Rat) * dl := by
  have hneg : (decide (p < 0) != decide (q < 0)) = decide (p < 0) := by rw [show decide (q < 0) = false by simp; omega]; simp
  have hD : (2 : Nat) ^ 1074 = BK := by unfold BK; rfl
  have hr : Right (ratF p q) (decide (p < 0)) (p.natAbs * BK) q.natAbs := by
    unfold ratF
    rw [hneg]
    refine ofFrac_right (by omega) ?_ (by omega)
    rw [hD]
  have hq' : ((q.natAbs : Nat) : Rat) = (q : Rat) := by
    have : (((q.natAbs : Nat) : Int) : Rat) = (q : Rat) := by rw [show ((q.natAbs : Nat) : Int) = q by omega]
    exact this
  obtain ⟨hf, n1, n2⟩ := of_frac (z := p) (by omega) hr (by
    have := sgn_BK (a := decide (p < 0)) (p := p.natAbs) (z := p) (sgn_self p).symm
    exact this) h
  rw [hq'] at n1 n2
  exact ⟨hf, n1, n2⟩

theorem ofInt_f {i : Int} (h : i.natAbs ≤ 64) : Fi (ofInt i) ∧ Nr (rv (ofInt i)) (i : Rat) dl := by
  have hr := ofInt_right i
  have hD : (2 : Nat) ^ 1074 = BK := by unfold BK; rfl
  rw [hD] at hr
  obtain ⟨hf, n1, n2⟩ := of_frac (z := i) (by decide) hr (by
    have := sgn_BK (a := decide (i < 0)) (p := i.natAbs) (z := i) (sgn_self i).symm
    exact this) (by omega)
  have e1 : ((1 : Nat) : Rat) = 1 := rfl
  rw [e1] at n1 n2
  exact ⟨hf, by constructor <;> grind⟩
end Mine.Fl
end
section
namespace Mine.Fl
open PySem PySem.Float64

theorem tn_add {e f : Int} (he : -1074 ≤ e) (hf : -1074 ≤ f) : (e + 1074).toNat = (e - min e f).toNat + (min e f + 1074).toNat := by
  have h1 : min e f ≤ e := Int.min_le_left e f
  have h2 : -1074 ≤ min e f := Int.le_min.mpr ⟨he, hf⟩
  generalize min e f = m at *
  rw [← Int.toNat_add (by omega) (by omega)]
  congr 1
  omega
theorem fmod_right {x y : UInt64} {a b : Bool} {m k : Nat} {e f : Int} (hx : decode x = .fin a m e) (hy : decode y = .fin b k f) (hk : k ≠ 0) :
    Right (fmod x y) a ((val x).natAbs % (val y).natAbs) 1 := by
  have he := decode_ge hx
  have hf := decode_ge hy
  have hfm : fmod x y = ofBin a ((m * 2 ^ (e - min e f).toNat) % (k * 2 ^ (f - min e f).toNat)) (min e f) := by
    unfold fmod
    rw [hx, hy]
    simp only []
    rw [if_neg (by simpa using hk)]
    rfl
  rw [hfm, val_natAbs hx, val_natAbs hy]
  have e1 : m * 2 ^ (e + 1074).toNat = m * 2 ^ (e - min e f).toNat * 2 ^ (min e f + 1074).toNat := by
    rw [Nat.mul_assoc, ← Nat.pow_add]
    congr 2
    exact tn_add he hf
  have e2 : k * 2 ^ (f + 1074).toNat = k * 2 ^ (f - min e f).toNat * 2 ^ (min e f + 1074).toNat := by
    rw [Nat.mul_assoc, ← Nat.pow_add]
    congr 2
    rw [Int.min_comm]
    exact tn_add hf he
  rw [e1, e2, Nat.mul_mod_mul_right]
  unfold ofBin
  refine ofFrac_right (shift_pos _ _ _ (by decide)) ?_ (by decide)
  have := shift_one ((m * 2 ^ (e - min e f).toNat) % (k * 2 ^ (f - min e f).toNat)) (min e f) 1074 (by omega)
  rw [Nat.mul_one]
  exact this

theorem isZero_rv {x : UInt64} (h : isZero x = true) : rv x = 0 := by
  unfold isZero at h
  cases hd : decode x with
  | nan => rw [hd] at h; cases h
  | inf s => rw [hd] at h; cases h
  | fin a m e =>
    rw [hd] at h
    cases m with
    | zero =>
      have hv := val_eq hd
      unfold rv
      rw [hv]
      cases a <;> simp [sgn, Rat.div_def]
    | succ n => simp at h
theorem nz {x : UInt64} (h : rv x ≠ 0) : isZero x = false := by
  cases hz : isZero x with
  | false => rfl
  | true => exact absurd (isZero_rv hz) h
theorem notNaN {x : UInt64} (h : Fi x) : isNaN x = false := by
  obtain ⟨_, _, _, h⟩ := h
  unfold isNaN; rw [h]
theorem notInf {x : UInt64} (h : Fi x) : isInf x = false := by
  obtain ⟨_, _, _, h⟩ := h
  unfold isInf; rw [h]

theorem rv_one_le {r : UInt64} (h : (val r).natAbs ≤ BK) : rv r ≤ 1 ∧ -1 ≤ rv r := by
  have hip : (0 : Rat) < (BK : Rat)⁻¹ := Rat.inv_pos.mpr BKq_pos
  have hi : (BK : Rat) * (BK : Rat)⁻¹ = 1 := Rat.mul_inv_cancel _ BKq_ne
  unfold rv
  rw [Rat.div_def]
  generalize val r = z at *
  have b1 : z ≤ (BK : Int) := by omega
  have b2 : -(BK : Int) ≤ z := by omega
  have c1 : (z : Rat) ≤ (BK : Rat) := Rat.intCast_le_intCast.mpr b1
  have c2 : -(BK : Rat) ≤ (z : Rat) := Rat.intCast_le_intCast.mpr b2
  have p1 := Rat.mul_le_mul_of_nonneg_right c1 (Rat.le_of_lt hip)
  have p2 := Rat.mul_le_mul_of_nonneg_right c2 (Rat.le_of_lt hip)
  constructor <;> grind

noncomputable abbrev one : UInt64 := 4607182418800017408
theorem val_one : val one = (BK : Int) := by unfold BK; decide +kernel
theorem fi_one : Fi one := fi_of (by decide +kernel)
theorem rv_one : rv one = 1 := by
  unfold rv; rw [val_one, Rat.div_def]; exact Rat.mul_inv_cancel _ BKq_ne
theorem fi_zero : Fi (zero false) := fi_of (by decide +kernel)
theorem rv_zero : rv (zero false) = 0 := by
  unfold rv; rw [show val (zero false) = 0 by decide +kernel, Rat.div_def]; simp

theorem fmod_one {x : UInt64} (hx : Fi x) : Fi (fmod x one) ∧ (rv (fmod x one) ≤ 1 ∧ -1 ≤ rv (fmod x one)) ∧ ∃ k : Int, Nr (rv (fmod x one)) (rv x - (k : Rat)) dl := by
  obtain ⟨a, m, e, hx⟩ := hx
  have ho : ∃ b k f, decode one = .fin b k f := fi_one
  obtain ⟨b, k, f, ho⟩ := ho
  have hk : k ≠ 0 := by
    intro h0
    have h1 := val_eq ho
    rw [h0, val_one] at h1
    have := BK_pos
    cases b <;> simp [sgn] at h1 <;> omega
  have hr := fmod_right hx ho hk
  have hb : (val one).natAbs = BK := by rw [val_one]; exact Int.natAbs_natCast _
  rw [hb] at hr
  have hlt := Nat.mod_lt (val x).natAbs BK_pos
  have hdm := Nat.div_add_mod (val x).natAbs BK
  generalize (val x).natAbs % BK = ρ at *
  generalize (val x).natAbs / BK = j at *
  have hW : ρ ≤ 1 * 2 ^ 1080 := by
    rw [Nat.one_mul, ← BK_64]; omega
  obtain ⟨hf, t, hv, hd, hmin⟩ := right_near hr (by decide) hW
  have hs := sgn_near (neg := a) hd
  rw [← hv] at hs
  have hn := rat_near (by decide) hs
  have e1 : ((1 : Nat) : Rat) = 1 := rfl
  rw [e1] at hn
  have hip : (0 : Rat) < (BK : Rat)⁻¹ := Rat.inv_pos.mpr BKq_pos
  have hi : (BK : Rat) * (BK : Rat)⁻¹ = 1 := Rat.mul_inv_cancel _ BKq_ne
  refine ⟨hf, ?_, sgn a j, ?_⟩
  · obtain ⟨t', ht'⟩ := V_ex 1074 1 (by decide)
    have hq := hmin t'
    rw [ht'] at hq
    have hle' : V t ≤ BK := by
      have := near_le (n := 1 * 2 ^ 1074) (by decide) hq (by rw [Nat.one_mul, Nat.one_mul]; unfold BK at hlt; omega)
      rw [Nat.one_mul] at this; unfold BK; exact this
    have ha : (val (fmod x one)).natAbs = V t := by rw [hv, sgn_natAbs]
    exact rv_one_le (by omega)
  · have hx2 : val x = sgn a j * (BK : Int) + sgn a ρ := by
      have h1 := val_eq hx
      have h2 : (val x).natAbs = m * 2 ^ (e + 1074).toNat := val_natAbs hx
      rw [h1, ← h2, ← hdm]
      cases a
      · simp [sgn, Int.natCast_mul, Int.natCast_add]; ac_rfl
      · simp [sgn, Int.natCast_mul, Int.natCast_add, Int.neg_mul]
        rw [Int.neg_add, Int.mul_comm]
    have e2 : rv x - ((sgn a j : Int) : Rat) = ((sgn a ρ : Int) : Rat) / (BK : Rat) := by
      unfold rv
      rw [hx2, Rat.intCast_add, Rat.intCast_mul, Rat.div_def, Rat.div_def, Rat.add_mul]
      have : ((sgn a j : Int) : Rat) * (((BK : Nat) : Int) : Rat) * (BK : Rat)⁻¹ = ((sgn a j : Int) : Rat) := by
        rw [Rat.mul_assoc]
        have : (((BK : Nat) : Int) : Rat) * (BK : Rat)⁻¹ = 1 := hi
        rw [this, Rat.mul_one]
      rw [this]; grind
    unfold Nr
    rw [e2]
    have e3 : rv (fmod x one) = (val (fmod x one) : Rat) / (BK : Rat) := rfl
    rw [e3]
    constructor <;> grind

theorem modF_eq (x : UInt64) : modF x = if isZero (fmod x one) then zero false else if lt (fmod x one) (zero false) then add (fmod x one) one else fmod x one := by
  have h1 : copysign (zero false) one = zero false := by decide +kernel
  have h2 : lt one (zero false) = false := by decide +kernel
  unfold modF divmod
  simp only [h1, h2]
  by_cases c1 : isZero (fmod x one) = true
  · simp [c1]
  · by_cases c2 : lt (fmod x one) (zero false) = true
    · simp [c1, c2]
    · simp [c1, c2]

theorem mod_f {x : UInt64} (hx : Fi x) : Fi (modF x) ∧ 0 ≤ rv (modF x) ∧ rv (modF x) ≤ 1 ∧ ∃ k : Int, Nr (rv (modF x)) (rv x - (k : Rat)) (2 * dl) := by
  obtain ⟨hf, ⟨h1, h2⟩, k, hn1, hn2⟩ := fmod_one hx
  rw [modF_eq]
  by_cases c1 : isZero (fmod x one) = true
  · rw [if_pos c1]
    have hz := isZero_rv c1
    refine ⟨fi_zero, ?_, ?_, k, ?_⟩
    · rw [rv_zero]; exact Rat.le_refl
    · rw [rv_zero]; decide +kernel
    · rw [rv_zero]; rw [hz] at hn1 hn2; constructor <;> grind
  · rw [if_neg c1]
    by_cases c2 : lt (fmod x one) (zero false) = true
    · rw [if_pos c2]
      have hlt := (cmp_lt hf fi_zero).mp c2
      rw [rv_zero] at hlt
      have ha := add_f hf fi_one (by rw [rv_one]; grind) (by rw [rv_one]; grind)
      rw [rv_one] at ha
      obtain ⟨a1, ⟨a2, a2'⟩, a3, a4, a5⟩ := ha
      refine ⟨a1, a3 (by grind), (a5 (by grind) (by grind)).1, k - 1, ?_⟩
      rw [Rat.intCast_sub]
      have e1 : ((1 : Int) : Rat) = 1 := rfl
      rw [e1]
      constructor <;> grind
    · rw [if_neg c2]
      have hge : ¬ rv (fmod x one) < 0 := fun h => c2 ((cmp_lt hf fi_zero).mpr (by rw [rv_zero]; exact h))
      exact ⟨hf, by grind, h1, k, by constructor <;> grind⟩

theorem abs_f {x : UInt64} (hx : Fi x) : Fi (abs x) ∧ (rv (abs x) = rv x ∨ rv (abs x) = -rv x) := by
  have hn := notNaN hx
  obtain ⟨a, m, e, hd⟩ := hx
  have ha : abs x = pack false (x.toNat % 2 ^ 63) := by unfold abs; rw [hn]; rfl
  have hlt : x.toNat % 2 ^ 63 < 2 ^ 63 := Nat.mod_lt _ (by decide)
  have hp := pack_toNat false hlt
  have hd' : decode (abs x) = .fin false m e := by
    rw [ha]
    have h2 : (pack false (x.toNat % 2 ^ 63)).toNat = x.toNat % 2 ^ 63 := by rw [hp]; simp
    unfold decode at hd ⊢
    simp only [h2] at hd ⊢
    have e1 : x.toNat % 2 ^ 63 / 2 ^ 52 % 2048 = x.toNat / 2 ^ 52 % 2048 := by
      rw [show (2 : Nat) ^ 63 = 2 ^ 52 * 2048 from rfl, Nat.mod_mul_right_div_self, Nat.mod_mod]
    have e2 : x.toNat % 2 ^ 63 % 2 ^ 52 = x.toNat % 2 ^ 52 := by
      rw [show (2 : Nat) ^ 63 = 2 ^ 52 * 2048 from rfl, Nat.mod_mul_right_mod]
    have e3 : (x.toNat % 2 ^ 63 / 2 ^ 63 == 1) = false := by
      rw [Nat.div_eq_of_lt hlt]; rfl
    rw [e1, e2, e3]
    split at hd
    · split at hd <;> cases hd
    · rename_i h3
      rw [if_neg h3]
      split at hd
      · rename_i h4; rw [if_pos h4]; cases hd; rfl
      · rename_i h4; rw [if_neg h4]; cases hd; rfl
  refine ⟨⟨_, _, _, hd'⟩, ?_⟩
  have v1 := val_eq hd
  have v2 := val_eq hd'
  cases a
  · left; unfold rv; rw [v1, v2]
  · right
    unfold rv
    rw [v1, v2]
    simp only [sgn, if_true, Bool.false_eq_true, if_false]
    rw [Rat.intCast_neg, Rat.div_def, Rat.div_def]; grind

theorem floor_div {m : Nat} {e : Int} (he : -1074 ≤ e) : floorOf false m e = ((m * 2 ^ (e + 1074).toNat / BK : Nat) : Int) := by
  unfold floorOf
  split
  · rename_i h
    have e1 : (e + 1074).toNat = e.toNat + 1074 := by omega
    have : m * 2 ^ (e + 1074).toNat = m * 2 ^ e.toNat * BK := by unfold BK; rw [e1, Nat.pow_add, Nat.mul_assoc]
    rw [this, Nat.mul_div_cancel _ BK_pos]
    simp [sgn]
  · rename_i h
    have hb : BK = 2 ^ (-e).toNat * 2 ^ (e + 1074).toNat := by
      unfold BK
      rw [← Nat.pow_add]
      congr 1
      omega
    rw [hb, Nat.mul_div_mul_right _ _ (Nat.two_pow_pos _)]
    simp only [sgn, Bool.false_eq_true, if_false]
    rw [Int.fdiv_eq_ediv_of_nonneg _ (by exact Int.le_of_lt (by exact_mod_cast Nat.two_pow_pos (-e).toNat))]
    simp

theorem trunc_val {x : UInt64} {a : Bool} {m : Nat} {e : Int} (hd : decode x = .fin a m e) : Flt.toInt truncOf x = sgn a ((val x).natAbs / BK) := by
  unfold Flt.toInt
  rw [hd, val_natAbs hd]
  have he := decode_ge hd
  show truncOf a m e = _
  unfold truncOf
  cases a
  · rw [if_neg (by simp), floor_div he]; rfl
  · rw [if_pos rfl]
    unfold ceilOf
    show -floorOf false m e = _
    rw [floor_div he]; rfl

theorem trunc_f {x : UInt64} (hx : Fi x) : (0 ≤ rv x → 0 ≤ Flt.toInt truncOf x ∧ (Flt.toInt truncOf x : Rat) ≤ rv x ∧ rv x < (Flt.toInt truncOf x : Rat) + 1) ∧ (rv x ≤ 0 → -1 < rv x → Flt.toInt truncOf x = 0) := by
  obtain ⟨a, m, e, hd⟩ := hx
  have ht := trunc_val hd
  have hv := val_eq hd
  have hip : (0 : Rat) < (BK : Rat)⁻¹ := Rat.inv_pos.mpr BKq_pos
  have hi : (BK : Rat) * (BK : Rat)⁻¹ = 1 := Rat.mul_inv_cancel _ BKq_ne
  have hdm := Nat.div_add_mod (val x).natAbs BK
  have hlt := Nat.mod_lt (val x).natAbs BK_pos
  generalize hj : (val x).natAbs / BK = j at *
  generalize (val x).natAbs % BK = ρ at *
  constructor
  · intro h0
    have hv0 : 0 ≤ val x := int_nonneg (by exact h0)
    have hjt : Flt.toInt truncOf x = (j : Int) := by
      rw [ht]
      cases a
      · rfl
      · have hz : (val x).natAbs = 0 := by simp only [sgn, if_true] at hv; omega
        rw [hz, Nat.zero_div] at hj
        subst hj; rfl
    rw [hjt]
    have hN : val x = (BK : Int) * (j : Int) + (ρ : Int) := by
      have : ((val x).natAbs : Int) = val x := by omega
      rw [← this, ← hdm]; simp
    have hN' : (val x : Rat) = (BK : Rat) * (j : Rat) + (ρ : Rat) := by
      rw [hN, Rat.intCast_add, Rat.intCast_mul]; rfl
    have hr1 : (0 : Rat) ≤ (ρ : Rat) := by exact_mod_cast Nat.zero_le _
    have hr2 : (ρ : Rat) < (BK : Rat) := by exact_mod_cast hlt
    have p1 := Rat.mul_nonneg hr1 (Rat.le_of_lt hip)
    have p2 := Rat.mul_pos (show (0 : Rat) < (BK : Rat) - (ρ : Rat) by grind) hip
    have e3 : (((j : Nat) : Int) : Rat) = (j : Rat) := rfl
    have e4 : rv x = (j : Rat) + (ρ : Rat) * (BK : Rat)⁻¹ := by
      unfold rv
      rw [hN', Rat.div_def, Rat.add_mul]
      have : (BK : Rat) * (j : Rat) * (BK : Rat)⁻¹ = (j : Rat) * ((BK : Rat) * (BK : Rat)⁻¹) := by grind
      rw [this, hi]; grind
    rw [e3, e4]
    refine ⟨by omega, by grind, ?_⟩
    rw [Rat.sub_eq_add_neg, Rat.add_mul, hi] at p2
    grind
  · intro h1 h2
    have hv0 : val x ≤ 0 := int_nonpos (by exact h1)
    have hv1 : -(BK : Int) < val x := by
      have hq : -(BK : Rat) < (val x : Rat) := by
        have := Rat.mul_pos (show (0 : Rat) < rv x + 1 by grind) BKq_pos
        rw [Rat.add_mul, rv_mul] at this; grind
      exact Rat.intCast_lt_intCast.mp hq
    have hj0 : j = 0 := by
      rw [← hj]; exact Nat.div_eq_of_lt (by omega)
    rw [ht, hj0]
    cases a <;> rfl

theorem halfEven_near (n d : Nat) (hd : 0 < d) : 2 * (d * halfEven n d) ≤ 2 * n + d ∧ 2 * n ≤ 2 * (d * halfEven n d) + d := by
  have h1 := Nat.div_add_mod n d
  have h2 := Nat.mod_lt n hd
  unfold halfEven
  simp only
  split
  · rename_i h
    rw [Nat.mul_add, Nat.mul_one]
    simp only [Bool.or_eq_true, decide_eq_true_eq, Bool.and_eq_true, beq_iff_eq] at h
    omega
  · rename_i h
    simp only [Bool.or_eq_true, decide_eq_true_eq, Bool.and_eq_true, beq_iff_eq] at h
    omega

theorem nearest_f {x : UInt64} (hx : Fi x) : rv x - (Flt.toInt nearestOf x : Rat) ≤ 1 / 2 ∧ (Flt.toInt nearestOf x : Rat) - rv x ≤ 1 / 2 := by
  obtain ⟨a, m, e, hd⟩ := hx
  have he := decode_ge hd
  have ht : Flt.toInt nearestOf x = sgn a (halfEven (shift m 1 e).1 (shift m 1 e).2) := by
    unfold Flt.toInt; rw [hd]; rfl
  have hv := val_eq hd
  have hs := shift_one m e 1074 (by omega)
  have hp := shift_pos m 1 e (by decide)
  generalize (shift m 1 e).1 = n at *
  generalize (shift m 1 e).2 = d at *
  have hb : (2 : Nat) ^ 1074 = BK := by unfold BK; rfl
  have hN : n * BK = (val x).natAbs * d := by
    rw [val_natAbs hd, ← hb]; exact hs
  have hh := halfEven_near n d hp
  generalize halfEven n d = q at *
  have k1 : 2 * (BK * q) ≤ 2 * (val x).natAbs + BK := by
    refine Nat.le_of_mul_le_mul_left ?_ hp
    have := Nat.mul_le_mul_right BK hh.1
    calc d * (2 * (BK * q)) = 2 * (d * q) * BK := by ac_rfl
      _ ≤ (2 * n + d) * BK := this
      _ = 2 * (n * BK) + d * BK := by rw [Nat.add_mul]; ac_rfl
      _ = d * (2 * (val x).natAbs + BK) := by rw [hN, Nat.mul_add]; ac_rfl
  have k2 : 2 * (val x).natAbs ≤ 2 * (BK * q) + BK := by
    refine Nat.le_of_mul_le_mul_left ?_ hp
    have := Nat.mul_le_mul_right BK hh.2
    calc d * (2 * (val x).natAbs) = 2 * (n * BK) := by rw [hN]; ac_rfl
      _ = 2 * n * BK := by ac_rfl
      _ ≤ (2 * (d * q) + d) * BK := this
      _ = d * (2 * (BK * q) + BK) := by rw [Nat.add_mul, Nat.mul_add]; ac_rfl
  have c1 : 2 * ((BK : Int) * sgn a q) ≤ 2 * val x + (BK : Int) ∧ 2 * val x ≤ 2 * ((BK : Int) * sgn a q) + (BK : Int) := by
    have g1 : 2 * ((BK : Int) * (q : Int)) ≤ 2 * ((val x).natAbs : Int) + (BK : Int) := by exact_mod_cast k1
    have g2 : 2 * ((val x).natAbs : Int) ≤ 2 * ((BK : Int) * (q : Int)) + (BK : Int) := by exact_mod_cast k2
    cases a
    · simp only [sgn, Bool.false_eq_true, if_false] at hv ⊢
      omega
    · simp only [sgn, if_true, Int.mul_neg] at hv ⊢
      omega
  rw [ht]
  have q1 : 2 * ((BK : Rat) * ((sgn a q : Int) : Rat)) ≤ 2 * (val x : Rat) + (BK : Rat) := by exact_mod_cast c1.1
  have q2 : 2 * (val x : Rat) ≤ 2 * ((BK : Rat) * ((sgn a q : Int) : Rat)) + (BK : Rat) := by exact_mod_cast c1.2
  have hip : (0 : Rat) < (BK : Rat)⁻¹ := Rat.inv_pos.mpr BKq_pos
  have hi : (BK : Rat) * (BK : Rat)⁻¹ = 1 := Rat.mul_inv_cancel _ BKq_ne
  have ex := rv_mul x
  rw [← ex] at q1 q2
  generalize ((sgn a q : Int) : Rat) = s at *
  generalize rv x = r at *
  have p1 := Rat.mul_nonneg (show (0 : Rat) ≤ (BK : Rat) * (2 * r + 1 - 2 * s) by grind) (Rat.le_of_lt hip)
  have p2 := Rat.mul_nonneg (show (0 : Rat) ≤ (BK : Rat) * (2 * s + 1 - 2 * r) by grind) (Rat.le_of_lt hip)
  have e1 : (BK : Rat) * (2 * r + 1 - 2 * s) * (BK : Rat)⁻¹ = ((BK : Rat) * (BK : Rat)⁻¹) * (2 * r + 1 - 2 * s) := by grind
  have e2 : (BK : Rat) * (2 * s + 1 - 2 * r) * (BK : Rat)⁻¹ = ((BK : Rat) * (BK : Rat)⁻¹) * (2 * s + 1 - 2 * r) := by grind
  rw [e1, hi] at p1
  rw [e2, hi] at p2
  constructor <;> grind
end Mine.Fl
end
section
namespace Mine.Fl

/-- the exact colour of the hue x, by sectors -/
noncomputable def Sec (x R G B : Rat) : Prop := ∃ (q : Int) (f : Rat), 0 ≤ f ∧ f ≤ 1 ∧
  ((6 * x = 6 * (q : Rat) + f ∧ R = 1 ∧ G = f ∧ B = 0) ∨ (6 * x = 6 * (q : Rat) + 1 + f ∧ R = 1 - f ∧ G = 1 ∧ B = 0) ∨
   (6 * x = 6 * (q : Rat) + 2 + f ∧ R = 0 ∧ G = 1 ∧ B = f) ∨ (6 * x = 6 * (q : Rat) + 3 + f ∧ R = 0 ∧ G = 1 - f ∧ B = 1) ∨
   (6 * x = 6 * (q : Rat) + 4 + f ∧ R = f ∧ G = 0 ∧ B = 1) ∨ (6 * x = 6 * (q : Rat) + 5 + f ∧ R = 1 ∧ G = 0 ∧ B = 1 - f))

theorem sec_max {x R G B r g b M ε : Rat} (hS : Sec x R G B) (n1 : Nr r R ε) (n2 : Nr g G ε) (n3 : Nr b B ε)
    (h1 : r ≤ M) (h2 : g ≤ M) (h3 : b ≤ M) (h4 : M = r ∨ M = g ∨ M = b) : Nr M 1 ε := by
  obtain ⟨q, f, f0, f1, h⟩ := hS
  obtain ⟨a1, a2⟩ := n1
  obtain ⟨b1, b2⟩ := n2
  obtain ⟨c1, c2⟩ := n3
  rcases h with h | h | h | h | h | h <;> obtain ⟨e, rfl, rfl, rfl⟩ := h <;> rcases h4 with h4 | h4 | h4 <;> constructor <;> grind
theorem sec_min {x R G B r g b M ε : Rat} (hS : Sec x R G B) (n1 : Nr r R ε) (n2 : Nr g G ε) (n3 : Nr b B ε)
    (h1 : M ≤ r) (h2 : M ≤ g) (h3 : M ≤ b) (h4 : M = r ∨ M = g ∨ M = b) : Nr M 0 ε := by
  obtain ⟨q, f, f0, f1, h⟩ := hS
  obtain ⟨a1, a2⟩ := n1
  obtain ⟨b1, b2⟩ := n2
  obtain ⟨c1, c2⟩ := n3
  rcases h with h | h | h | h | h | h <;> obtain ⟨e, rfl, rfl, rfl⟩ := h <;> rcases h4 with h4 | h4 | h4 <;> constructor <;> grind

theorem castSucc (q : Int) : ((q + 1 : Int) : Rat) = (q : Rat) + 1 := by rw [Rat.intCast_add]; rfl
theorem castPred (q : Int) : ((q - 1 : Int) : Rat) = (q : Rat) - 1 := by rw [Rat.intCast_sub]; rfl

theorem hue_r {x R G B ε : Rat} (hS : Sec x R G B) (he0 : 0 ≤ ε) (he : ε ≤ 1 / 1000) (h2 : G - R ≤ 2 * ε) (h3 : B - R ≤ 2 * ε) :
    ∃ k : Int, Nr (G - B) (6 * (x - (k : Rat))) (2 * ε) := by
  obtain ⟨q, f, f0, f1, h⟩ := hS
  rcases h with h | h | h | h | h | h <;> obtain ⟨e, rfl, rfl, rfl⟩ := h
  · exact ⟨q, by constructor <;> grind⟩
  · exact ⟨q, by constructor <;> grind⟩
  · exfalso; grind
  · exfalso; grind
  · exact ⟨q + 1, by rw [castSucc]; constructor <;> grind⟩
  · exact ⟨q + 1, by rw [castSucc]; constructor <;> grind⟩
theorem hue_g {x R G B ε : Rat} (hS : Sec x R G B) (he0 : 0 ≤ ε) (he : ε ≤ 1 / 1000) (h2 : R - G ≤ 2 * ε) (h3 : B - G ≤ 2 * ε) :
    ∃ k : Int, Nr (2 + B - R) (6 * (x - (k : Rat))) (2 * ε) := by
  obtain ⟨q, f, f0, f1, h⟩ := hS
  rcases h with h | h | h | h | h | h <;> obtain ⟨e, rfl, rfl, rfl⟩ := h
  · exact ⟨q, by constructor <;> grind⟩
  · exact ⟨q, by constructor <;> grind⟩
  · exact ⟨q, by constructor <;> grind⟩
  · exact ⟨q, by constructor <;> grind⟩
  · exfalso; grind
  · exfalso; grind
theorem hue_b {x R G B ε : Rat} (hS : Sec x R G B) (he0 : 0 ≤ ε) (he : ε ≤ 1 / 1000) (h2 : R - B ≤ 2 * ε) (h3 : G - B ≤ 2 * ε) :
    ∃ k : Int, Nr (4 + R - G) (6 * (x - (k : Rat))) (2 * ε) := by
  obtain ⟨q, f, f0, f1, h⟩ := hS
  rcases h with h | h | h | h | h | h <;> obtain ⟨e, rfl, rfl, rfl⟩ := h
  · exfalso; grind
  · exfalso; grind
  · exact ⟨q, by constructor <;> grind⟩
  · exact ⟨q, by constructor <;> grind⟩
  · exact ⟨q, by constructor <;> grind⟩
  · exact ⟨q, by constructor <;> grind⟩

theorem quot_bd {num rg rc d : Rat} (hd0 : 0 ≤ d) (hd : d ≤ 1 / 1000) (h1 : num - rg * rc ≤ rg * d) (h2 : rg * rc - num ≤ rg * d) (g1 : 3 / 4 ≤ rg) (g2 : rg ≤ 5 / 4)
    (n1 : num ≤ 5 / 4) (n2 : -5 / 4 ≤ num) : rc ≤ 2 ∧ -2 ≤ rc := by
  have p := Rat.mul_nonneg (show (0 : Rat) ≤ 5 / 4 - rg by grind) hd0
  constructor
  · apply Rat.not_lt.mp
    intro h
    have := Rat.mul_nonneg (show (0 : Rat) ≤ rc - 2 by grind) (show (0 : Rat) ≤ rg - 3 / 4 by grind)
    grind
  · apply Rat.not_lt.mp
    intro h
    have := Rat.mul_nonneg (show (0 : Rat) ≤ -2 - rc by grind) (show (0 : Rat) ≤ rg - 3 / 4 by grind)
    grind

theorem quot_near {num rg rc d b : Rat} (hd0 : 0 ≤ d) (hd : d ≤ 1 / 1000) (h1 : num - rg * rc ≤ rg * d) (h2 : rg * rc - num ≤ rg * d) (g : Nr rg 1 b) (hb : b ≤ 1 / 4)
    (n1 : num ≤ 5 / 4) (n2 : -5 / 4 ≤ num) : Nr rc num (2 * b + 2 * d) := by
  obtain ⟨g1, g2⟩ := g
  obtain ⟨r1, r2⟩ := quot_bd hd0 hd h1 h2 (by grind) (by grind) n1 n2
  have p := Rat.mul_nonneg (show (0 : Rat) ≤ 5 / 4 - rg by grind) hd0
  have q1 := Rat.mul_nonneg (show (0 : Rat) ≤ 2 - rc by grind) (show (0 : Rat) ≤ b - (rg - 1) by grind)
  have q2 := Rat.mul_nonneg (show (0 : Rat) ≤ 2 + rc by grind) (show (0 : Rat) ≤ b - (rg - 1) by grind)
  have q3 := Rat.mul_nonneg (show (0 : Rat) ≤ 2 - rc by grind) (show (0 : Rat) ≤ b - (1 - rg) by grind)
  have q4 := Rat.mul_nonneg (show (0 : Rat) ≤ 2 + rc by grind) (show (0 : Rat) ≤ b - (1 - rg) by grind)
  constructor <;> grind

/-- the wave of one channel -/
noncomputable def Wv (ρ v : Rat) : Prop := (0 ≤ ρ ∧ ρ ≤ 1 / 6 ∧ v = 6 * ρ) ∨ (1 / 6 ≤ ρ ∧ ρ ≤ 1 / 2 ∧ v = 1) ∨ (1 / 2 ≤ ρ ∧ ρ ≤ 2 / 3 ∧ v = 4 - 6 * ρ) ∨ (2 / 3 ≤ ρ ∧ ρ ≤ 1 ∧ v = 0)
noncomputable def Wd (d u o : Rat) : Prop := (u ≤ 1 / 6 + d ∧ o = 6 * u) ∨ (1 / 6 - d ≤ u ∧ u ≤ 1 / 2 ∧ o = 1) ∨ (1 / 2 ≤ u ∧ u ≤ 2 / 3 + d ∧ o = 4 - 6 * u) ∨ (2 / 3 - d ≤ u ∧ o = 0)

theorem small_int {j : Int} {u ρ θ : Rat} (u0 : 0 ≤ u) (u1 : u ≤ 1) (r0 : 0 ≤ ρ) (r1 : ρ ≤ 1) (hθ : θ ≤ 1 / 100) (h : Nr u (ρ + (j : Rat)) θ) : j = -1 ∨ j = 0 ∨ j = 1 := by
  obtain ⟨h1, h2⟩ := h
  have a : ((-2 : Int) : Rat) < (j : Rat) := by
    have : ((-2 : Int) : Rat) = -2 := rfl
    grind
  have b : (j : Rat) < ((2 : Int) : Rat) := by
    have : ((2 : Int) : Rat) = 2 := rfl
    grind
  have a' := Rat.intCast_lt_intCast.mp a
  have b' := Rat.intCast_lt_intCast.mp b
  (first | lia | omega)

/-- bounds of the wave that hold in every part of it -/
structure WB (ρ v : Rat) : Prop where
  r0 : 0 ≤ ρ
  r1 : ρ ≤ 1
  v0 : 0 ≤ v
  v1 : v ≤ 1
  up : v ≤ 6 * ρ
  dn : v = 0 ∨ v ≤ 4 - 6 * ρ
  lo : v = 1 ∨ 6 * ρ ≤ v ∨ 4 - 6 * ρ ≤ v
theorem Wv.wb {ρ v : Rat} (h : Wv ρ v) : WB ρ v := by
  rcases h with ⟨a, b, rfl⟩ | ⟨a, b, rfl⟩ | ⟨a, b, rfl⟩ | ⟨a, b, rfl⟩
  · exact ⟨a, by grind, by grind, by grind, Rat.le_refl, .inr (by grind), .inr (.inl Rat.le_refl)⟩
  · exact ⟨by grind, by grind, by decide +kernel, Rat.le_refl, by grind, .inr (by grind), .inl rfl⟩
  · exact ⟨by grind, by grind, by grind, by grind, by grind, .inr Rat.le_refl, .inr (.inr Rat.le_refl)⟩
  · exact ⟨by grind, b, Rat.le_refl, by decide +kernel, by grind, .inl rfl, .inr (.inr (by grind))⟩
theorem Wd.wb {d u o : Rat} (hd0 : 0 ≤ d) (hd : d ≤ 1 / 1000) (u0 : 0 ≤ u) (u1 : u ≤ 1) (h : Wd d u o) : (-(6 * d) ≤ o ∧ o ≤ 1 + 6 * d) ∧ o ≤ 6 * u + 6 * d ∧ (o = 0 ∨ o ≤ 4 - 6 * u + 6 * d) ∧ (o = 1 ∨ 6 * u ≤ o + 6 * d ∨ 4 - 6 * u ≤ o + 6 * d) := by
  rcases h with ⟨a, rfl⟩ | ⟨a, b, rfl⟩ | ⟨a, b, rfl⟩ | ⟨a, rfl⟩
  · exact ⟨⟨by grind, by grind⟩, by grind, .inr (by grind), .inr (.inl (by grind))⟩
  · exact ⟨⟨by grind, by grind⟩, by grind, .inr (by grind), .inl rfl⟩
  · exact ⟨⟨by grind, by grind⟩, by grind, .inr (by grind), .inr (.inr (by grind))⟩
  · exact ⟨⟨by grind, by grind⟩, by grind, .inl rfl, .inr (.inr (by grind))⟩
theorem wave {u o ρ v θ d : Rat} {j : Int} (hd0 : 0 ≤ d) (hd : d ≤ 1 / 1000) (u0 : 0 ≤ u) (u1 : u ≤ 1) (hu : Wd d u o) (hv : Wv ρ v) (hθ0 : 0 ≤ θ) (hθ : θ ≤ 1 / 100) (h : Nr u (ρ + (j : Rat)) θ) :
    Nr o v (6 * θ + 12 * d) := by
  obtain ⟨r0, r1, v0, v1, up, dn, lo⟩ := hv.wb
  obtain ⟨⟨o0, o1⟩, ou, od, ol⟩ := hu.wb hd0 hd u0 u1
  clear hv
  have hj := small_int u0 u1 r0 r1 hθ h
  obtain ⟨h1, h2⟩ := h
  have e0 : ((0 : Int) : Rat) = 0 := rfl
  have e1 : ((1 : Int) : Rat) = 1 := rfl
  have e2 : ((-1 : Int) : Rat) = -1 := rfl
  rcases hj with rfl | rfl | rfl
  · rw [e2] at h1 h2
    have : v = 0 := by rcases dn with h | h; exact h; exfalso; grind
    subst this
    clear up lo dn od ol
    constructor <;> grind
  · rw [e0] at h1 h2
    constructor
    · rcases lo with h | h | h
      · clear up dn od ol ou; grind
      · clear up dn od ol; grind
      · clear up dn ol
        rcases od with q | q <;> grind
    · rcases ol with h | h | h
      · clear up dn od lo ou; grind
      · clear dn od lo ou; grind
      · clear up od lo ou
        rcases dn with q | q <;> grind
  · rw [e1] at h1 h2
    have : o = 0 := by
      rcases hu with ⟨a, _⟩ | ⟨_, a, _⟩ | ⟨_, a, _⟩ | ⟨_, a⟩
      · exfalso; grind
      · exfalso; grind
      · exfalso; grind
      · exact a
    subst this
    clear lo dn od ol
    constructor <;> grind

/-- every hue has a sector, and the three waves there -/
theorem addSub (a b : Rat) : a = a - b + b := (Rat.sub_add_cancel).symm
theorem sec_ex (x : Rat) : ∃ R G B, Sec x R G B ∧ (∃ ρ n, x + 1 / 3 = ρ + ((n : Int) : Rat) ∧ Wv ρ R) ∧ (∃ ρ n, x = ρ + ((n : Int) : Rat) ∧ Wv ρ G) ∧ (∃ ρ n, x - 1 / 3 = ρ + ((n : Int) : Rat) ∧ Wv ρ B) := by
  have h1 := Rat.floor_le (6 * x)
  have h2 := Rat.lt_floor_add_one (6 * x)
  generalize (6 * x).floor = j at *
  rw [castSucc] at h2
  have hq : j = 6 * (j / 6) + j % 6 := by (first | lia | omega)
  have hm : j % 6 = 0 ∨ j % 6 = 1 ∨ j % 6 = 2 ∨ j % 6 = 3 ∨ j % 6 = 4 ∨ j % 6 = 5 := by (first | lia | omega)
  generalize j / 6 = q at *
  generalize j % 6 = s at *
  have hj : (j : Rat) = 6 * (q : Rat) + (s : Rat) := by rw [hq, Rat.intCast_add, Rat.intCast_mul]; rfl
  have g0 : 0 ≤ 6 * x - (j : Rat) := by grind
  have g1 : 6 * x - (j : Rat) ≤ 1 := by grind
  rcases hm with rfl | rfl | rfl | rfl | rfl | rfl
  · have e : ((0 : Int) : Rat) = 0 := rfl
    rw [e] at hj
    refine ⟨1, 6 * x - j, 0, ⟨q, 6 * x - j, g0, g1, .inl ⟨by grind, rfl, rfl, rfl⟩⟩, ⟨x + 1 / 3 - q, q, addSub _ _, .inr (.inl ⟨by grind, by grind, rfl⟩)⟩, ⟨x - q, q, addSub _ _, .inl ⟨by grind, by grind, by grind⟩⟩, ⟨x - 1 / 3 - ((q - 1 : Int) : Rat), q - 1, addSub _ _, .inr (.inr (.inr ⟨?_, ?_, rfl⟩))⟩⟩ <;> rw [castPred] <;> grind
  · have e : ((1 : Int) : Rat) = 1 := rfl
    rw [e] at hj
    refine ⟨1 - (6 * x - j), 1, 0, ⟨q, 6 * x - j, g0, g1, .inr (.inl ⟨by grind, rfl, rfl, rfl⟩)⟩, ⟨x + 1 / 3 - q, q, addSub _ _, .inr (.inr (.inl ⟨by grind, by grind, by grind⟩))⟩, ⟨x - q, q, addSub _ _, .inr (.inl ⟨by grind, by grind, rfl⟩)⟩, ⟨x - 1 / 3 - ((q - 1 : Int) : Rat), q - 1, addSub _ _, .inr (.inr (.inr ⟨?_, ?_, rfl⟩))⟩⟩ <;> rw [castPred] <;> grind
  · have e : ((2 : Int) : Rat) = 2 := rfl
    rw [e] at hj
    exact ⟨0, 1, 6 * x - j, ⟨q, 6 * x - j, g0, g1, .inr (.inr (.inl ⟨by grind, rfl, rfl, rfl⟩))⟩, ⟨x + 1 / 3 - q, q, addSub _ _, .inr (.inr (.inr ⟨by grind, by grind, rfl⟩))⟩, ⟨x - q, q, addSub _ _, .inr (.inl ⟨by grind, by grind, rfl⟩)⟩, ⟨x - 1 / 3 - q, q, addSub _ _, .inl ⟨by grind, by grind, by grind⟩⟩⟩
  · have e : ((3 : Int) : Rat) = 3 := rfl
    rw [e] at hj
    exact ⟨0, 1 - (6 * x - j), 1, ⟨q, 6 * x - j, g0, g1, .inr (.inr (.inr (.inl ⟨by grind, rfl, rfl, rfl⟩)))⟩, ⟨x + 1 / 3 - q, q, addSub _ _, .inr (.inr (.inr ⟨by grind, by grind, rfl⟩))⟩, ⟨x - q, q, addSub _ _, .inr (.inr (.inl ⟨by grind, by grind, by grind⟩))⟩, ⟨x - 1 / 3 - q, q, addSub _ _, .inr (.inl ⟨by grind, by grind, rfl⟩)⟩⟩
  · have e : ((4 : Int) : Rat) = 4 := rfl
    rw [e] at hj
    refine ⟨6 * x - j, 0, 1, ⟨q, 6 * x - j, g0, g1, .inr (.inr (.inr (.inr (.inl ⟨by grind, rfl, rfl, rfl⟩))))⟩, ⟨x + 1 / 3 - ((q + 1 : Int) : Rat), q + 1, addSub _ _, .inl ⟨?_, ?_, ?_⟩⟩, ⟨x - q, q, addSub _ _, .inr (.inr (.inr ⟨by grind, by grind, rfl⟩))⟩, ⟨x - 1 / 3 - q, q, addSub _ _, .inr (.inl ⟨by grind, by grind, rfl⟩)⟩⟩ <;> rw [castSucc] <;> grind
  · have e : ((5 : Int) : Rat) = 5 := rfl
    rw [e] at hj
    refine ⟨1, 0, 1 - (6 * x - j), ⟨q, 6 * x - j, g0, g1, .inr (.inr (.inr (.inr (.inr ⟨by grind, rfl, rfl, rfl⟩))))⟩, ⟨x + 1 / 3 - ((q + 1 : Int) : Rat), q + 1, addSub _ _, .inr (.inl ⟨?_, ?_, rfl⟩)⟩, ⟨x - q, q, addSub _ _, .inr (.inr (.inr ⟨by grind, by grind, rfl⟩))⟩, ⟨x - 1 / 3 - q, q, addSub _ _, .inr (.inr (.inl ⟨by grind, by grind, by grind⟩))⟩⟩ <;> rw [castSucc] <;> grind
open PySem PySem.Float64
theorem prod_small {a b : Rat} {p q : Rat} (hp : 0 ≤ p) (hq : 0 ≤ q) (a1 : a ≤ p) (a2 : -p ≤ a) (b1 : b ≤ q) (b2 : -q ≤ b) : a * b ≤ p * q ∧ -(p * q) ≤ a * b := by
  have r1 := Rat.mul_nonneg (show (0 : Rat) ≤ p - a by grind) (show (0 : Rat) ≤ q + b by grind)
  have r2 := Rat.mul_nonneg (show (0 : Rat) ≤ p + a by grind) (show (0 : Rat) ≤ q - b by grind)
  have r3 := Rat.mul_nonneg (show (0 : Rat) ≤ p - a by grind) (show (0 : Rat) ≤ q - b by grind)
  have r4 := Rat.mul_nonneg (show (0 : Rat) ≤ p + a by grind) (show (0 : Rat) ≤ q + b by grind)
  constructor <;> grind

noncomputable def Hide (P : Prop) : Prop := ¬ P
theorem Hide.ex {P : Prop} (h : Hide P) (p : P) : False := h p
theorem by_hide {P : Prop} (h : Hide P → False) : P := Classical.byContradiction h
/-- the size of a number -/
noncomputable def Bd (a p : Rat) : Prop := a ≤ p ∧ -p ≤ a
theorem Bd.pos {a p : Rat} (h : Bd a p) : 0 ≤ p := by obtain ⟨h1, h2⟩ := h; grind
theorem Bd.mono {a p q : Rat} (h : Bd a p) (hq : p ≤ q) : Bd a q := by obtain ⟨h1, h2⟩ := h; constructor <;> grind
theorem Bd.of {x : UInt64} {q p : Rat} (h : rv x = q) (h1 : q ≤ p) (h2 : -p ≤ q) : Bd (rv x) p := by rw [h]; exact ⟨h1, h2⟩
theorem Bd.add {a b p q : Rat} (h : Bd a p) (k : Bd b q) : Bd (a + b) (p + q) := by obtain ⟨h1, h2⟩ := h; obtain ⟨k1, k2⟩ := k; constructor <;> grind
theorem Bd.sub {a b p q : Rat} (h : Bd a p) (k : Bd b q) : Bd (a - b) (p + q) := by obtain ⟨h1, h2⟩ := h; obtain ⟨k1, k2⟩ := k; constructor <;> grind
theorem Bd.mul {a b p q : Rat} (h : Bd a p) (k : Bd b q) : Bd (a * b) (p * q) := prod_small h.pos k.pos h.1 h.2 k.1 k.2
theorem Bd.nr {a b p e : Rat} (h : Bd b p) (n : Nr a b e) : Bd a (p + e) := by obtain ⟨h1, h2⟩ := h; obtain ⟨n1, n2⟩ := n; constructor <;> grind
theorem Nr.bd {a b e : Rat} (n : Nr a b e) : Bd (a - b) e := by obtain ⟨n1, n2⟩ := n; constructor <;> grind
theorem nrSub {a c M m e f : Rat} (h : Nr a (c - M) e) (k : Nr M m f) : Nr a (c - m) (e + f) := by obtain ⟨h1, h2⟩ := h; obtain ⟨k1, k2⟩ := k; constructor <;> grind
theorem Nr.mono {a b e f : Rat} (h : Nr a b e) (k : e ≤ f) : Nr a b f := ⟨Rat.le_trans h.1 k, Rat.le_trans h.2 k⟩
theorem Nr.tr {a b c e f : Rat} (h : Nr a b e) (k : Nr b c f) : Nr a c (e + f) := by obtain ⟨h1, h2⟩ := h; obtain ⟨k1, k2⟩ := k; constructor <;> grind
theorem nrAdd {P s t τ y : Rat} (p : Nr P (s + t) dl) (q : Nr t τ dl) (w : s + τ = y) : Nr P y (2 * dl) := by obtain ⟨h1, h2⟩ := p; obtain ⟨k1, k2⟩ := q; constructor <;> grind
theorem nrSub2 {P s t τ y : Rat} (p : Nr P (s - t) dl) (q : Nr t τ dl) (w : s - τ = y) : Nr P y (2 * dl) := by obtain ⟨h1, h2⟩ := p; obtain ⟨k1, k2⟩ := q; constructor <;> grind
theorem nrEq {a b y : Rat} (w : b = y) (h : Nr a b dl) (d0 : 0 ≤ dl) : Nr a y (2 * dl) := by obtain ⟨h1, h2⟩ := h; constructor <;> grind
theorem dlq : dl ≤ (1 : Rat) := by decide +kernel
theorem bd1 {a b p : Rat} (h : Bd b p) (n : Nr a b dl) : Bd a (p + 1) := (h.nr n).mono (by have := dlq; grind)
theorem le64 {a p : Rat} (h : Bd a p) (k : p ≤ 64) : a ≤ 64 ∧ -64 ≤ a := by obtain ⟨h1, h2⟩ := h; constructor <;> grind
theorem add_g {x y : UInt64} {p q : Rat} (hx : Fi x) (hy : Fi y) (bx : Bd (rv x) p) (hb : Bd (rv y) q) (h : p + q ≤ 64) : Fi (add x y) ∧ Nr (rv (add x y)) (rv x + rv y) dl ∧ Bd (rv (add x y)) (p + q + 1) := by
  obtain ⟨a, b⟩ := le64 (bx.add hb) h
  obtain ⟨c, d, _⟩ := add_f hx hy a b
  exact ⟨c, d, bd1 (bx.add hb) d⟩
theorem sub_g {x y : UInt64} {p q : Rat} (hx : Fi x) (hy : Fi y) (bx : Bd (rv x) p) (hb : Bd (rv y) q) (h : p + q ≤ 64) : Fi (sub x y) ∧ Nr (rv (sub x y)) (rv x - rv y) dl ∧ Bd (rv (sub x y)) (p + q + 1) := by
  obtain ⟨a, b⟩ := le64 (bx.sub hb) h
  obtain ⟨c, d, _⟩ := sub_f hx hy a b
  exact ⟨c, d, bd1 (bx.sub hb) d⟩
theorem mul_g {x y : UInt64} {p q : Rat} (hx : Fi x) (hy : Fi y) (bx : Bd (rv x) p) (hb : Bd (rv y) q) (h : p * q ≤ 64) : Fi (mul x y) ∧ Nr (rv (mul x y)) (rv x * rv y) dl ∧ Bd (rv (mul x y)) (p * q + 1) := by
  obtain ⟨a, b⟩ := le64 (bx.mul hb) h
  obtain ⟨c, d⟩ := mul_f hx hy a b
  exact ⟨c, d, bd1 (bx.mul hb) d⟩

end Mine.Fl
end
section
namespace Mine.Fl
open PySem PySem.Float64

theorem const_f {x : UInt64} (p D : Nat) (hD : 0 < D) (hf : isFinite x = true) (h : (((p * BK : Nat) : Int) - (D : Int) * val x).natAbs ≤ D * 2 ^ 1027) :
    Fi x ∧ (p : Rat) - (D : Rat) * rv x ≤ (D : Rat) * dl ∧ (D : Rat) * rv x - (p : Rat) ≤ (D : Rat) * dl := by
  have hn := rat_near hD h
  have e : (((p * BK : Nat) : Int) : Rat) / (BK : Rat) = (p : Rat) := by
    have : (((p * BK : Nat) : Int) : Rat) = (p : Rat) * (BK : Rat) := Rat.natCast_mul p BK
    rw [this]; exact Rat.mul_div_cancel BKq_ne
  rw [e] at hn
  exact ⟨fi_of hf, hn.1, hn.2⟩
theorem exact_f {x : UInt64} (p : Nat) (hf : isFinite x = true) (h : val x = ((p * BK : Nat) : Int)) : Fi x ∧ rv x = (p : Rat) := by
  refine ⟨fi_of hf, ?_⟩
  unfold rv
  rw [h]
  have : (((p * BK : Nat) : Int) : Rat) = (p : Rat) * (BK : Rat) := Rat.natCast_mul p BK
  rw [this]; exact Rat.mul_div_cancel BKq_ne

theorem f1_f : Fi f1 ∧ rv f1 = 1 := ⟨fi_one, rv_one⟩
theorem f2_f : Fi f2 ∧ rv f2 = 2 := exact_f 2 (by decide +kernel) (by unfold BK; decide +kernel)
theorem f4_f : Fi f4 ∧ rv f4 = 4 := exact_f 4 (by decide +kernel) (by unfold BK; decide +kernel)
theorem f6_f : Fi f6 ∧ rv f6 = 6 := exact_f 6 (by decide +kernel) (by unfold BK; decide +kernel)
theorem f0_f : Fi 0 ∧ rv 0 = 0 := exact_f 0 (by decide +kernel) (by decide +kernel)
theorem fHalf_f : Fi fHalf ∧ rv fHalf = 1 / 2 := by
  refine ⟨fi_of (by decide +kernel), ?_⟩
  have h : val fHalf * 2 = (BK : Int) := by unfold BK; decide +kernel
  have h' : (val fHalf : Rat) * 2 = (BK : Rat) := by
    have : ((val fHalf * 2 : Int) : Rat) = (((BK : Nat) : Int) : Rat) := by rw [h]
    rw [Rat.intCast_mul] at this; exact this
  have := rv_mul fHalf
  have hb := BKq_ne
  have hi : (BK : Rat) * (BK : Rat)⁻¹ = 1 := Rat.mul_inv_cancel _ BKq_ne
  have e : rv fHalf = (val fHalf : Rat) * (BK : Rat)⁻¹ := by unfold rv; rw [Rat.div_def]
  rw [e]
  have : (val fHalf : Rat) = (BK : Rat) / 2 := by grind
  rw [this]; grind
theorem f13_f : Fi f13 ∧ Nr (rv f13) (1 / 3) dl := by
  obtain ⟨h, a, b⟩ := const_f (x := f13) 1 3 (by decide) (by decide +kernel) (by unfold BK; decide +kernel)
  have e1 : ((1 : Nat) : Rat) = 1 := rfl
  have e3 : ((3 : Nat) : Rat) = 3 := rfl
  rw [e1, e3] at a b
  exact ⟨h, by constructor <;> grind⟩
theorem f16_f : Fi f16 ∧ Nr (rv f16) (1 / 6) dl := by
  obtain ⟨h, a, b⟩ := const_f (x := f16) 1 6 (by decide) (by decide +kernel) (by unfold BK; decide +kernel)
  have e1 : ((1 : Nat) : Rat) = 1 := rfl
  have e3 : ((6 : Nat) : Rat) = 6 := rfl
  rw [e1, e3] at a b
  exact ⟨h, by constructor <;> grind⟩
theorem f23_f : Fi f23 ∧ Nr (rv f23) (2 / 3) dl := by
  obtain ⟨h, a, b⟩ := const_f (x := f23) 2 3 (by decide) (by decide +kernel) (by unfold BK; decide +kernel)
  have e1 : ((2 : Nat) : Rat) = 2 := rfl
  have e3 : ((3 : Nat) : Rat) = 3 := rfl
  rw [e1, e3] at a b
  exact ⟨h, by constructor <;> grind⟩
theorem fMu_f : Fi fMu ∧ Nr (rv fMu) (1 / 1000000) dl := by
  obtain ⟨h, a, b⟩ := const_f (x := fMu) 1 1000000 (by decide) (by decide +kernel) (by unfold BK; decide +kernel)
  have e1 : ((1 : Nat) : Rat) = 1 := rfl
  have e3 : ((1000000 : Nat) : Rat) = 1000000 := rfl
  rw [e1, e3] at a b
  exact ⟨h, by constructor <;> grind⟩

theorem max2_f {x y : UInt64} (hx : Fi x) (hy : Fi y) : Fi (max2F x y) ∧ rv x ≤ rv (max2F x y) ∧ rv y ≤ rv (max2F x y) ∧ (rv (max2F x y) = rv x ∨ rv (max2F x y) = rv y) := by
  unfold max2F
  by_cases c : (cmp x y == some .lt) = true
  · rw [if_pos c]
    have := (cmp_lt hx hy).mp c
    exact ⟨hy, by grind, by grind, .inr rfl⟩
  · rw [if_neg c]
    have : ¬ rv x < rv y := fun h => c ((cmp_lt hx hy).mpr h)
    exact ⟨hx, by grind, by grind, .inl rfl⟩
theorem min2_f {x y : UInt64} (hx : Fi x) (hy : Fi y) : Fi (min2F x y) ∧ rv (min2F x y) ≤ rv x ∧ rv (min2F x y) ≤ rv y ∧ (rv (min2F x y) = rv x ∨ rv (min2F x y) = rv y) := by
  unfold min2F
  by_cases c : (cmp y x == some .lt) = true
  · rw [if_pos c]
    have := (cmp_lt hy hx).mp c
    exact ⟨hy, by grind, by grind, .inr rfl⟩
  · rw [if_neg c]
    have : ¬ rv y < rv x := fun h => c ((cmp_lt hy hx).mpr h)
    exact ⟨hx, by grind, by grind, .inl rfl⟩
theorem max3_f {x y z : UInt64} (hx : Fi x) (hy : Fi y) (hz : Fi z) : Fi (max3F x y z) ∧ rv x ≤ rv (max3F x y z) ∧ rv y ≤ rv (max3F x y z) ∧ rv z ≤ rv (max3F x y z) ∧ (rv (max3F x y z) = rv x ∨ rv (max3F x y z) = rv y ∨ rv (max3F x y z) = rv z) := by
  obtain ⟨a0, a1, a2, a3⟩ := max2_f hx hy
  obtain ⟨b0, b1, b2, b3⟩ := max2_f a0 hz
  unfold max3F
  exact ⟨b0, by grind, by grind, b2, by grind⟩
theorem min3_f {x y z : UInt64} (hx : Fi x) (hy : Fi y) (hz : Fi z) : Fi (min3F x y z) ∧ rv (min3F x y z) ≤ rv x ∧ rv (min3F x y z) ≤ rv y ∧ rv (min3F x y z) ≤ rv z ∧ (rv (min3F x y z) = rv x ∨ rv (min3F x y z) = rv y ∨ rv (min3F x y z) = rv z) := by
  obtain ⟨a0, a1, a2, a3⟩ := min2_f hx hy
  obtain ⟨b0, b1, b2, b3⟩ := min2_f a0 hz
  unfold min3F
  exact ⟨b0, by grind, by grind, b2, by grind⟩

/-- a colour near the exact one of the hue x -/
structure Near3 (k : Col) (x R G B ε : Rat) : Prop where
  fr : Fi k.1
  fg : Fi k.2.1
  fb : Fi k.2.2
  sec : Sec x R G B
  nr : Nr (rv k.1) R ε
  ng : Nr (rv k.2.1) G ε
  nb : Nr (rv k.2.2) B ε

theorem sec_01 {x R G B : Rat} (h : Sec x R G B) : 0 ≤ R ∧ R ≤ 1 ∧ 0 ≤ G ∧ G ≤ 1 ∧ 0 ≤ B ∧ B ≤ 1 := by
  obtain ⟨q, f, f0, f1, h⟩ := h
  rcases h with h | h | h | h | h | h <;> obtain ⟨e, rfl, rfl, rfl⟩ := h <;> grind

section
variable {k : Col} {x R G B ε : Rat} (h : Near3 k x R G B ε) (he0 : 100 * dl ≤ ε) (he : ε ≤ 1 / 100000000)
include h he0 he

theorem mx_f : Fi (max3F k.1 k.2.1 k.2.2) ∧ Nr (rv (max3F k.1 k.2.1 k.2.2)) 1 ε := by
  obtain ⟨a0, a1, a2, a3, a4⟩ := max3_f h.fr h.fg h.fb
  exact ⟨a0, sec_max h.sec h.nr h.ng h.nb a1 a2 a3 a4⟩
theorem mn_f : Fi (min3F k.1 k.2.1 k.2.2) ∧ Nr (rv (min3F k.1 k.2.1 k.2.2)) 0 ε := by
  obtain ⟨a0, a1, a2, a3, a4⟩ := min3_f h.fr h.fg h.fb
  exact ⟨a0, sec_min h.sec h.nr h.ng h.nb a1 a2 a3 a4⟩
theorem rg_f : Fi (sub (max3F k.1 k.2.1 k.2.2) (min3F k.1 k.2.1 k.2.2)) ∧ Nr (rv (sub (max3F k.1 k.2.1 k.2.2) (min3F k.1 k.2.1 k.2.2))) 1 (2 * ε + dl) ∧ Nr (rv (sub (max3F k.1 k.2.1 k.2.2) (min3F k.1 k.2.1 k.2.2))) (rv (max3F k.1 k.2.1 k.2.2) - rv (min3F k.1 k.2.1 k.2.2)) dl := by
  obtain ⟨m0, m1, m2⟩ := mx_f h he0 he
  obtain ⟨n0, n1, n2⟩ := mn_f h he0 he
  obtain ⟨s0, ⟨s1, s2⟩, s3, s4⟩ := sub_f m0 n0 (by grind) (by grind)
  exact ⟨s0, ⟨by grind, by grind⟩, s1, s2⟩
end

theorem chan_f {M G r : UInt64} {R ε : Rat} (he0 : 100 * dl ≤ ε) (he : ε ≤ 1 / 100000000) (hM : Fi M) (hG : Fi G) (hr : Fi r) (nM : Nr (rv M) 1 ε) (nG : Nr (rv G) 1 (2 * ε + dl)) (nr : Nr (rv r) R ε) (R0 : 0 ≤ R) (R1 : R ≤ 1) :
    Fi (div (sub M r) G) ∧ Nr (rv (div (sub M r) G)) (1 - R) (7 * ε) := by
  obtain ⟨m1, m2⟩ := nM
  have d0 : (0 : Rat) ≤ dl := by decide +kernel
  obtain ⟨g1, g2⟩ := id nG
  obtain ⟨r1, r2⟩ := nr
  obtain ⟨s0, ⟨s1, s2⟩, s3, s4⟩ := sub_f hM hr (by grind) (by grind)
  obtain ⟨d0, d1, d2⟩ := div_f s0 hG (by grind) (by grind) (by grind)
  obtain ⟨q1, q2⟩ := quot_near (by grind) (by grind) d1 d2 nG (by grind) (by grind) (by grind)
  exact ⟨d0, by constructor <;> grind⟩

theorem eq_f {x y : UInt64} (hx : Fi x) (hy : Fi y) : isEq x y = true ↔ rv x = rv y := cmp_eq hx hy
theorem lt_f {x y : UInt64} (hx : Fi x) (hy : Fi y) : isLt x y = true ↔ rv x < rv y := cmp_lt hx hy
theorem le_f {x y : UInt64} (hx : Fi x) (hy : Fi y) : isLe x y = true ↔ rv x ≤ rv y := by
  unfold isLe
  rw [Bool.or_eq_true, cmp_lt hx hy, cmp_eq hx hy]
  grind

theorem div6 {n : UInt64} {t : Rat} (hn : Fi n) (h1 : rv n ≤ 20) (h2 : -20 ≤ rv n) : Fi (div n f6) ∧ Nr (6 * rv (div n f6)) (rv n) (6 * dl) := by
  obtain ⟨s0, s1⟩ := f6_f
  obtain ⟨d0, d1, d2⟩ := div_f hn s0 (by rw [s1]; decide +kernel) (by rw [s1]; grind) (by rw [s1]; grind)
  rw [s1] at d1 d2
  exact ⟨d0, by constructor <;> grind⟩

theorem chB {a R ε : Rat} (h : Nr a (1 - R) (7 * ε)) (r0 : 0 ≤ R) (r1 : R ≤ 1) (he : ε ≤ 1 / 100000000) : Bd a 2 := by obtain ⟨h1, h2⟩ := h; constructor <;> grind
theorem nrDif {s x y X Y e f : Rat} (h : Nr s (x - y) dl) (k : Nr x X e) (l : Nr y Y f) : Nr s (X - Y) (dl + e + f) := by obtain ⟨h1, h2⟩ := h; obtain ⟨k1, k2⟩ := k; obtain ⟨l1, l2⟩ := l; constructor <;> grind
theorem nrSum {s x c C e : Rat} (h : Nr s (c + x) dl) (k : Nr x C e) : Nr s (c + C) (dl + e) := by obtain ⟨h1, h2⟩ := h; obtain ⟨k1, k2⟩ := k; constructor <;> grind
theorem hue_f {k : Col} {x R G B ε : Rat} (h : Near3 k x R G B ε) (he0 : 100 * dl ≤ ε) (he : ε ≤ 1 / 100000000) :
    Fi (hueF k.1 k.2.1 k.2.2) ∧ 0 ≤ rv (hueF k.1 k.2.1 k.2.2) ∧ rv (hueF k.1 k.2.1 k.2.2) ≤ 1 ∧ ∃ j : Int, Nr (rv (hueF k.1 k.2.1 k.2.2)) (x - (j : Rat)) (3 * ε) := by
  have d0 : (0 : Rat) ≤ dl := by decide +kernel
  obtain ⟨m0, m⟩ := mx_f h he0 he
  obtain ⟨g0, g, _⟩ := rg_f h he0 he
  obtain ⟨R0, R1, G0, G1, B0, B1⟩ := sec_01 h.sec
  obtain ⟨rc0, rcn⟩ := chan_f he0 he m0 g0 h.fr m g h.nr R0 R1
  obtain ⟨gc0, gcn⟩ := chan_f he0 he m0 g0 h.fg m g h.ng G0 G1
  obtain ⟨bc0, bcn⟩ := chan_f he0 he m0 g0 h.fb m g h.nb B0 B1
  obtain ⟨_, x1, x2, x3, x4⟩ := max3_f h.fr h.fg h.fb
  obtain ⟨nr1, nr2⟩ := h.nr
  obtain ⟨ng1, ng2⟩ := h.ng
  obtain ⟨nb1, nb2⟩ := h.nb
  obtain ⟨t20, t2⟩ := f2_f
  obtain ⟨t40, t4⟩ := f4_f
  have key : ∀ n : UInt64, Fi n → ∀ (h0 : Rat), -3 ≤ h0 → h0 ≤ 10 → Nr (rv n) h0 (15 * ε + 2 * dl) → (∃ j : Int, Nr h0 (6 * (x - (j : Rat))) (2 * ε)) →
      Fi (modF (div n f6)) ∧ 0 ≤ rv (modF (div n f6)) ∧ rv (modF (div n f6)) ≤ 1 ∧ ∃ j : Int, Nr (rv (modF (div n f6))) (x - (j : Rat)) (3 * ε) := by
    intro n hn h0 ha hb ⟨n1, n2⟩ ⟨j, j1, j2⟩
    obtain ⟨d0, d1, d2⟩ := div6 (t := 0) hn (by grind) (by grind)
    obtain ⟨q0, q1, q2, i, q3, q4⟩ := mod_f d0
    refine ⟨q0, q1, q2, j + i, ?_⟩
    rw [Rat.intCast_add]
    constructor <;> grind
  have rB := chB rcn R0 R1 he
  have gB := chB gcn G0 G1 he
  have bB := chB bcn B0 B1 he
  have w1 : dl + 7 * ε + 7 * ε ≤ 15 * ε + 2 * dl := by grind
  have w2 : dl + (dl + 7 * ε) + 7 * ε ≤ 15 * ε + 2 * dl := by grind
  unfold hueF
  simp only
  by_cases c1 : isEq k.1 (max3F k.1 k.2.1 k.2.2) = true
  · rw [if_pos c1]
    have e := (eq_f h.fr m0).mp c1
    obtain ⟨s0, sn, _⟩ := sub_g bc0 gc0 bB gB (by decide +kernel)
    have sm := (nrDif sn bcn gcn).mono w1
    rw [show (1 - B) - (1 - G) = G - B by grind] at sm
    exact key _ s0 (G - B) (by grind) (by grind) sm (hue_r h.sec (by grind) (by grind) (by grind) (by grind))
  · rw [if_neg c1]
    have e := fun q => c1 ((eq_f h.fr m0).mpr q)
    by_cases c2 : isEq k.2.1 (max3F k.1 k.2.1 k.2.2) = true
    · rw [if_pos c2]
      have e2 := (eq_f h.fg m0).mp c2
      obtain ⟨a0, an, aB⟩ := add_g t20 rc0 (Bd.of (p := 2) t2 (by decide +kernel) (by decide +kernel)) rB (by decide +kernel)
      obtain ⟨s0, sn, _⟩ := sub_g a0 bc0 aB bB (by decide +kernel)
      rw [t2] at an
      have sm := (nrDif sn (nrSum an rcn) bcn).mono w2
      rw [show 2 + (1 - R) - (1 - B) = 2 + B - R by grind] at sm
      exact key _ s0 (2 + B - R) (by grind) (by grind) sm (hue_g h.sec (by grind) (by grind) (by grind) (by grind))
    · rw [if_neg c2]
      have e2 := fun q => c2 ((eq_f h.fg m0).mpr q)
      obtain ⟨a0, an, aB⟩ := add_g t40 gc0 (Bd.of (p := 4) t4 (by decide +kernel) (by decide +kernel)) gB (by decide +kernel)
      obtain ⟨s0, sn, _⟩ := sub_g a0 rc0 aB rB (by decide +kernel)
      rw [t4] at an
      have sm := (nrDif sn (nrSum an gcn) rcn).mono w2
      rw [show 4 + (1 - G) - (1 - R) = 4 + R - G by grind] at sm
      exact key _ s0 (4 + R - G) (by grind) (by grind) sm (hue_b h.sec (by grind) (by grind) (by grind) (by grind))
end Mine.Fl
end
section
namespace Mine.Fl
open PySem PySem.Float64

theorem m2A {M mn S Gd l s a m2 d : Rat} (hd0 : 0 ≤ d) (hd : d ≤ 1 / 1000) (S1 : S - (M + mn) ≤ d) (S2 : (M + mn) - S ≤ d) (G1 : Gd - (M - mn) ≤ d) (G2 : (M - mn) - Gd ≤ d)
    (l1 : S - 2 * l ≤ 2 * d) (l2 : 2 * l - S ≤ 2 * d) (s1 : Gd - S * s ≤ S * d) (s2 : S * s - Gd ≤ S * d) (sb1 : s ≤ 2) (sb2 : -2 ≤ s)
    (a1 : a - (1 + s) ≤ d) (a2 : (1 + s) - a ≤ d) (m1 : m2 - l * a ≤ d) (m2' : l * a - m2 ≤ d) (lb1 : 0 ≤ l) (lb2 : l ≤ 1) (Sb1 : 0 ≤ S) (Sb2 : S ≤ 2) : Nr m2 M (10 * d) := by
  have p1 := Rat.mul_nonneg (show (0 : Rat) ≤ 2 * d - (2 * l - S) by grind) (show (0 : Rat) ≤ 2 + s by grind)
  have p2 := Rat.mul_nonneg (show (0 : Rat) ≤ 2 * d + (2 * l - S) by grind) (show (0 : Rat) ≤ 2 - s by grind)
  have p3 := Rat.mul_nonneg (show (0 : Rat) ≤ 2 * d - (2 * l - S) by grind) (show (0 : Rat) ≤ 2 - s by grind)
  have p4 := Rat.mul_nonneg (show (0 : Rat) ≤ 2 * d + (2 * l - S) by grind) (show (0 : Rat) ≤ 2 + s by grind)
  have q1 := Rat.mul_nonneg (show (0 : Rat) ≤ d - (a - (1 + s)) by grind) lb1
  have q2 := Rat.mul_nonneg (show (0 : Rat) ≤ d + (a - (1 + s)) by grind) lb1
  have q3 := Rat.mul_nonneg (show (0 : Rat) ≤ 1 - l by grind) hd0
  have q4 := Rat.mul_nonneg (show (0 : Rat) ≤ 2 - S by grind) hd0
  constructor <;> grind

theorem m2B {M mn S Gd l s a p m2 D2 d : Rat} (hd0 : 0 ≤ d) (hd : d ≤ 1 / 1000) (S1 : S - (M + mn) ≤ d) (S2 : (M + mn) - S ≤ d) (G1 : Gd - (M - mn) ≤ d) (G2 : (M - mn) - Gd ≤ d)
    (l1 : S - 2 * l ≤ 2 * d) (l2 : 2 * l - S ≤ 2 * d) (D1 : D2 - (2 - M - mn) ≤ 2 * d) (D2' : (2 - M - mn) - D2 ≤ 2 * d) (s1 : Gd - D2 * s ≤ D2 * d) (s2 : D2 * s - Gd ≤ D2 * d) (sb1 : s ≤ 2) (sb2 : -2 ≤ s)
    (a1 : a - (l + s) ≤ d) (a2 : (l + s) - a ≤ d) (p1 : p - l * s ≤ d) (p2 : l * s - p ≤ d) (m1 : m2 - (a - p) ≤ d) (m2' : (a - p) - m2 ≤ d) (Db1 : 0 ≤ D2) (Db2 : D2 ≤ 2) : Nr m2 M (15 * d) := by
  have r1 := Rat.mul_nonneg (show (0 : Rat) ≤ 5 * d - (2 - 2 * l - D2) by grind) (show (0 : Rat) ≤ 2 + s by grind)
  have r2 := Rat.mul_nonneg (show (0 : Rat) ≤ 5 * d + (2 - 2 * l - D2) by grind) (show (0 : Rat) ≤ 2 - s by grind)
  have r3 := Rat.mul_nonneg (show (0 : Rat) ≤ 5 * d - (2 - 2 * l - D2) by grind) (show (0 : Rat) ≤ 2 - s by grind)
  have r4 := Rat.mul_nonneg (show (0 : Rat) ≤ 5 * d + (2 - 2 * l - D2) by grind) (show (0 : Rat) ≤ 2 + s by grind)
  have q4 := Rat.mul_nonneg (show (0 : Rat) ≤ 2 - D2 by grind) hd0
  constructor <;> grind

theorem conv {m1 m2 ω μ κ : Rat} (h1 : m1 ≤ μ) (h2 : -μ ≤ m1) (h3 : m2 - 1 ≤ μ) (h4 : 1 - m2 ≤ μ) (hμ : μ ≤ 1 / 1000) (w0 : -κ ≤ ω) (w1 : ω ≤ 1 + κ) (hκ0 : 0 ≤ κ) (hκ : κ ≤ 1 / 1000) :
    Nr (m1 + (m2 - m1) * ω) ω (μ + κ) := by
  by_cases c1 : ω < 0
  · obtain ⟨p1, p2⟩ := prod_small (a := m2 - m1 - 1) (b := ω) (p := 1 / 100) (q := κ) (by decide +kernel) hκ0 (by grind) (by grind) (by grind) (by grind)
    constructor <;> grind
  · by_cases c2 : 1 < ω
    · obtain ⟨p1, p2⟩ := prod_small (a := m2 - m1 - 1) (b := ω - 1) (p := 1 / 100) (q := κ) (by decide +kernel) hκ0 (by grind) (by grind) (by grind) (by grind)
      constructor <;> grind
    · have q1 := Rat.mul_nonneg (show (0 : Rat) ≤ μ - m1 by grind) (show (0 : Rat) ≤ 1 - ω by grind)
      have q2 := Rat.mul_nonneg (show (0 : Rat) ≤ μ + m1 by grind) (show (0 : Rat) ≤ 1 - ω by grind)
      have q3 := Rat.mul_nonneg (show (0 : Rat) ≤ μ - (m2 - 1) by grind) (show (0 : Rat) ≤ ω by grind)
      have q4 := Rat.mul_nonneg (show (0 : Rat) ≤ μ + (m2 - 1) by grind) (show (0 : Rat) ≤ ω by grind)
      constructor <;> grind

theorem dl0 : (0 : Rat) ≤ dl := by decide +kernel
theorem dl1 : dl ≤ (1 : Rat) / 1000000000000 := by decide +kernel

/-- m1 + (dm * u) * 6 as floats -/
theorem lin_f {m1 m2 u : UInt64} {μ : Rat} (h1 : Fi m1) (h2 : Fi m2) (h3 : Fi u) (n1 : Nr (rv m1) 0 μ) (n2 : Nr (rv m2) 1 μ) (hμ : μ ≤ 1 / 1000) (u0 : -(2 * dl) ≤ rv u) (u1 : rv u ≤ 1 / 6 + 2 * dl) :
    Fi (add m1 (mul (mul (sub m2 m1) u) f6)) ∧ Nr (rv (add m1 (mul (mul (sub m2 m1) u) f6))) (6 * rv u) (μ + 28 * dl) := by
  obtain ⟨a1, a2⟩ := n1
  obtain ⟨b1, b2⟩ := n2
  have d0 := dl0
  have d1 := dl1
  have A : Bd (rv m1) 1 := ⟨by grind, by grind⟩
  have B : Bd (rv m2) 2 := ⟨by grind, by grind⟩
  have U : Bd (rv u) 1 := ⟨by grind, by grind⟩
  obtain ⟨s0, sn, sB⟩ := sub_g h2 h1 B A (by decide +kernel)
  obtain ⟨p0, ⟨p1, p2⟩, pB⟩ := mul_g s0 h3 sB U (by decide +kernel)
  obtain ⟨c0, c1⟩ := f6_f
  obtain ⟨t0, ⟨t1, t2⟩, tB⟩ := mul_g p0 c0 pB (Bd.of (p := 6) c1 (by decide +kernel) (by decide +kernel)) (by decide +kernel)
  rw [c1] at t1 t2
  obtain ⟨e0, ⟨e1, e2⟩, _⟩ := add_g h1 t0 A tB (by decide +kernel)
  obtain ⟨v1, v2⟩ := conv (m1 := rv m1) (m2 := rv m2) (ω := 6 * rv u) (μ := μ) (κ := 12 * dl) (by grind) (by grind) b1 b2 hμ (by grind) (by grind) (by grind) (by grind)
  obtain ⟨w1, w2⟩ := sn.bd.mul U
  clear sn sB pB tB A B U
  exact ⟨e0, by constructor <;> grind⟩

theorem v_f {m1 m2 hx : UInt64} {μ : Rat} (h1 : Fi m1) (h2 : Fi m2) (h3 : Fi hx) (n1 : Nr (rv m1) 0 μ) (n2 : Nr (rv m2) 1 μ) (hμ0 : 0 ≤ μ) (hμ : μ ≤ 1 / 1000) :
    Fi (vF m1 m2 hx) ∧ ∃ o, Wd dl (rv (modF hx)) o ∧ Nr (rv (vF m1 m2 hx)) o (μ + 48 * dl) := by
  obtain ⟨u0, u1, u2, _⟩ := mod_f h3
  have d0 := dl0
  have d1 := dl1
  obtain ⟨a0, a1, a2⟩ := f16_f
  obtain ⟨b0, b1⟩ := fHalf_f
  obtain ⟨c0, c1, c2⟩ := f23_f
  unfold vF
  by_cases k1 : isLt (modF hx) f16 = true
  · rw [if_pos k1]
    have e := (lt_f u0 a0).mp k1
    obtain ⟨r0, r1, r2⟩ := lin_f h1 h2 u0 n1 n2 hμ (by grind) (by grind)
    exact ⟨r0, 6 * rv (modF hx), .inl ⟨by grind, rfl⟩, by constructor <;> grind⟩
  · rw [if_neg k1]
    have e : ¬ rv (modF hx) < rv f16 := fun q => k1 ((lt_f u0 a0).mpr q)
    by_cases k2 : isLt (modF hx) fHalf = true
    · rw [if_pos k2]
      have e2 := (lt_f u0 b0).mp k2
      obtain ⟨n1, n2⟩ := n2
      exact ⟨h2, 1, .inr (.inl ⟨by grind, by grind, rfl⟩), by constructor <;> grind⟩
    · rw [if_neg k2]
      have e2 : ¬ rv (modF hx) < rv fHalf := fun q => k2 ((lt_f u0 b0).mpr q)
      by_cases k3 : isLt (modF hx) f23 = true
      · rw [if_pos k3]
        have e3 := (lt_f u0 c0).mp k3
        rw [b1] at e2
        obtain ⟨s0, ⟨s1, s2⟩, s3, s4⟩ := sub_f c0 u0 (by grind) (by grind)
        obtain ⟨r0, r1, r2⟩ := lin_f h1 h2 s0 n1 n2 hμ (by grind) (by grind)
        exact ⟨r0, 4 - 6 * rv (modF hx), .inr (.inr (.inl ⟨by grind, by grind, rfl⟩)), by constructor <;> grind⟩
      · rw [if_neg k3]
        have e3 : ¬ rv (modF hx) < rv f23 := fun q => k3 ((lt_f u0 c0).mpr q)
        obtain ⟨n1, n2⟩ := n1
        exact ⟨h1, 0, .inr (.inr (.inr ⟨by grind, rfl⟩)), by constructor <;> grind⟩

theorem ls_f {k : Col} {x R G B ε : Rat} (h : Near3 k x R G B ε) (he0 : 100 * dl ≤ ε) (he : ε ≤ 1 / 100000000) :
    Fi (lightF k.1 k.2.1 k.2.2) ∧ Nr (rv (lightF k.1 k.2.1 k.2.2)) (1 / 2) (4 * ε) ∧ Fi (satF k.1 k.2.1 k.2.2) ∧ Nr (rv (satF k.1 k.2.1 k.2.2)) 1 (14 * ε) ∧
    Fi (m2F (lightF k.1 k.2.1 k.2.2) (satF k.1 k.2.1 k.2.2)) ∧ Nr (rv (m2F (lightF k.1 k.2.1 k.2.2) (satF k.1 k.2.1 k.2.2))) 1 (ε + 15 * dl) ∧
    Fi (m1F (lightF k.1 k.2.1 k.2.2) (satF k.1 k.2.1 k.2.2)) ∧ Nr (rv (m1F (lightF k.1 k.2.1 k.2.2) (satF k.1 k.2.1 k.2.2))) 0 (ε + 20 * dl) ∧
    rv (add (max3F k.1 k.2.1 k.2.2) (min3F k.1 k.2.1 k.2.2)) ≠ 0 ∧ rv (sub (sub f2 (max3F k.1 k.2.1 k.2.2)) (min3F k.1 k.2.1 k.2.2)) ≠ 0 := by
  have d0 := dl0
  have d1 := dl1
  obtain ⟨M0, M1, M2⟩ := mx_f h he0 he
  obtain ⟨N0, N1, N2⟩ := mn_f h he0 he
  obtain ⟨g0, ⟨g1, g2⟩, g3, g4⟩ := rg_f h he0 he
  obtain ⟨t20, t2⟩ := f2_f
  obtain ⟨t10, t1⟩ := f1_f
  obtain ⟨hh0, hh⟩ := fHalf_f
  unfold m1F m2F satF
  simp only
  refine by_hide fun hn => ?_
  have hL : lightF k.1 k.2.1 k.2.2 = div (add (max3F k.1 k.2.1 k.2.2) (min3F k.1 k.2.1 k.2.2)) f2 := rfl
  generalize max3F k.1 k.2.1 k.2.2 = mx at *
  generalize min3F k.1 k.2.1 k.2.2 = mn at *
  have BM : Bd (rv mx) 2 := ⟨by grind, by grind⟩
  have BN : Bd (rv mn) 1 := ⟨by grind, by grind⟩
  have B2 : Bd (rv f2) 2 := Bd.of t2 (by decide +kernel) (by decide +kernel)
  have B1 : Bd (rv f1) 1 := Bd.of t1 (by decide +kernel) (by decide +kernel)
  obtain ⟨S0, ⟨S1, S2⟩, SB⟩ := add_g M0 N0 BM BN (by decide +kernel)
  obtain ⟨L0, L1, L2⟩ := div_f S0 t20 (by rw [t2]; decide +kernel) (by rw [t2]; grind) (by rw [t2]; grind)
  rw [← hL] at L0 L1 L2
  rw [t2] at L1 L2
  generalize lightF k.1 k.2.1 k.2.2 = l at *
  obtain ⟨D0, ⟨D1, D2⟩, DB⟩ := sub_g t20 M0 B2 BM (by decide +kernel)
  rw [t2] at D1 D2
  obtain ⟨E0, ⟨E1, E2⟩, _⟩ := sub_g D0 N0 DB BN (by decide +kernel)
  have BL : Bd (rv l) 1 := ⟨by grind, by grind⟩
  obtain ⟨T0, ⟨T1, T2⟩, TB⟩ := mul_g t20 L0 B2 BL (by decide +kernel)
  rw [t2] at T1 T2
  by_cases c : isLe l fHalf = true
  · rw [if_pos c, if_pos c] at hn
    obtain ⟨s0, s1, s2⟩ := div_f g0 S0 (by grind) (by grind) (by grind)
    obtain ⟨r1, r2⟩ := quot_near d0 (by grind) s1 s2 (b := 2 * ε + dl) ⟨by grind, by grind⟩ (by grind) (by grind) (by grind)
    obtain ⟨a0, ⟨a1, a2⟩, aB⟩ := add_g t10 s0 B1 (show Bd _ 2 from ⟨by grind, by grind⟩) (by decide +kernel)
    rw [t1] at a1 a2
    obtain ⟨b0, ⟨b1, b2⟩, bB⟩ := mul_g L0 a0 BL aB (by decide +kernel)
    obtain ⟨x1, x2⟩ := m2A (M := rv mx) (mn := rv mn) d0 (by grind) S1 S2 g3 g4 (by grind) (by grind) s1 s2 (by grind) (by grind) a1 a2 b1 b2 (by grind) (by grind) (by grind) (by grind)
    obtain ⟨y0, ⟨y1, y2⟩, _⟩ := sub_g T0 b0 TB bB (by decide +kernel)
    refine hn.ex ⟨L0, ⟨by grind, by grind⟩, s0, ⟨by grind, by grind⟩, b0, ⟨by grind, by grind⟩, y0, ⟨by grind, by grind⟩, by grind, by grind⟩
  · rw [if_neg c, if_neg c] at hn
    obtain ⟨s0, s1, s2⟩ := div_f g0 E0 (by grind) (by grind) (by grind)
    obtain ⟨r1, r2⟩ := quot_near d0 (by grind) s1 s2 (b := 2 * ε + 2 * dl) ⟨by grind, by grind⟩ (by grind) (by grind) (by grind)
    have sB : Bd (rv (div (sub mx mn) (sub (sub f2 mx) mn))) 2 := ⟨by grind, by grind⟩
    obtain ⟨a0, ⟨a1, a2⟩, aB⟩ := add_g L0 s0 BL sB (by decide +kernel)
    obtain ⟨b0, ⟨b1, b2⟩, bB⟩ := mul_g L0 s0 BL sB (by decide +kernel)
    obtain ⟨z0, ⟨z1, z2⟩, zB⟩ := sub_g a0 b0 aB bB (by decide +kernel)
    obtain ⟨x1, x2⟩ := m2B (M := rv mx) (mn := rv mn) d0 (by grind) S1 S2 g3 g4 (by grind) (by grind) (by grind) (by grind) s1 s2 (by grind) (by grind) a1 a2 b1 b2 z1 z2 (by grind) (by grind)
    obtain ⟨y0, ⟨y1, y2⟩, _⟩ := sub_g T0 z0 TB zB (by decide +kernel)
    refine hn.ex ⟨L0, ⟨by grind, by grind⟩, s0, ⟨by grind, by grind⟩, z0, ⟨by grind, by grind⟩, y0, ⟨by grind, by grind⟩, by grind, by grind⟩
end Mine.Fl
end
section
namespace Mine.Fl
open PySem PySem.Float64

theorem scale {c a b e : Rat} (c0 : 0 ≤ c) (c10 : c ≤ 10) (h : Nr a b e) (e0 : 0 ≤ e) : Nr (c * a) (c * b) (10 * e) := by
  obtain ⟨h1, h2⟩ := h
  have p1 := Rat.mul_nonneg c0 (show (0 : Rat) ≤ e - (a - b) by grind)
  have p2 := Rat.mul_nonneg c0 (show (0 : Rat) ≤ e - (b - a) by grind)
  have p3 := Rat.mul_nonneg (show (0 : Rat) ≤ 10 - c by grind) e0
  constructor <;> grind

theorem cQ {c : Int} (h1 : 2 ≤ c) (h2 : c ≤ 10) : (2 : Rat) ≤ (c : Rat) ∧ (c : Rat) ≤ 10 :=
  ⟨Rat.intCast_le_intCast.mpr h1, Rat.intCast_le_intCast.mpr h2⟩

theorem ro_f {c o : Int} (hc1 : 2 ≤ c) (hc2 : c ≤ 10) (ho1 : -(4 * c) ≤ o) (ho2 : o ≤ 4 * c) :
    Fi (ratF o c) ∧ Nr ((c : Rat) * rv (ratF o c)) (o : Rat) (10 * dl) ∧ rv (ratF o c) ≤ 5 ∧ -5 ≤ rv (ratF o c) ∧ (0 ≤ o → -dl ≤ rv (ratF o c)) ∧ ((o : Rat) - (c : Rat) ≤ 0 → rv (ratF o c) ≤ 2) := by
  obtain ⟨r0, r1, r2⟩ := rat_f (p := o) (q := c) (by (first | lia | omega)) (by (first | lia | omega))
  obtain ⟨c1, c2⟩ := cQ hc1 hc2
  have d0 := dl0
  have d1 := dl1
  have q1 : -(4 * (c : Rat)) ≤ (o : Rat) := by
    have := Rat.intCast_le_intCast.mpr ho1
    rw [Rat.intCast_neg, Rat.intCast_mul] at this; exact this
  have q2 : (o : Rat) ≤ 4 * (c : Rat) := by
    have := Rat.intCast_le_intCast.mpr ho2
    rw [Rat.intCast_mul] at this; exact this
  have p3 := Rat.mul_nonneg (show (0 : Rat) ≤ 10 - (c : Rat) by grind) d0
  have p4 := Rat.mul_nonneg (show (0 : Rat) ≤ (c : Rat) by grind) (show (0 : Rat) ≤ 1 / 1000 - dl by grind)
  generalize rv (ratF o c) = ro at *
  refine ⟨r0, ⟨by grind, by grind⟩, ?_, ?_, ?_, ?_⟩
  · apply Rat.not_lt.mp
    intro h
    have := Rat.mul_pos (show (0 : Rat) < (c : Rat) by grind) (show (0 : Rat) < ro - 5 by grind)
    grind
  · apply Rat.not_lt.mp
    intro h
    have := Rat.mul_pos (show (0 : Rat) < (c : Rat) by grind) (show (0 : Rat) < -5 - ro by grind)
    grind
  · intro h
    have h' : (0 : Rat) ≤ (o : Rat) := Rat.intCast_le_intCast.mpr h
    apply Rat.not_lt.mp
    intro hh
    have := Rat.mul_pos (show (0 : Rat) < (c : Rat) by grind) (show (0 : Rat) < -dl - ro by grind)
    grind
  · intro h
    apply Rat.not_lt.mp
    intro hh
    have := Rat.mul_pos (show (0 : Rat) < (c : Rat) by grind) (show (0 : Rat) < ro - 2 by grind)
    grind

theorem chan_w {m1 m2 hx : UInt64} {μ ρ v : Rat} {n : Int} (h1 : Fi m1) (h2 : Fi m2) (h3 : Fi hx) (n1 : Nr (rv m1) 0 μ) (n2 : Nr (rv m2) 1 μ) (hμ0 : 0 ≤ μ) (hμ : μ ≤ 1 / 1000)
    (hy : Nr (rv hx) (ρ + (n : Rat)) (2 * dl)) (hW : Wv ρ v) : Fi (vF m1 m2 hx) ∧ Nr (rv (vF m1 m2 hx)) v (μ + 84 * dl) := by
  obtain ⟨v0, o, w1, v1, v2⟩ := v_f h1 h2 h3 n1 n2 hμ0 hμ
  obtain ⟨u0, u1, u2, k, u3, u4⟩ := mod_f h3
  have d0 := dl0
  have d1 := dl1
  obtain ⟨y1, y2⟩ := hy
  obtain ⟨z1, z2⟩ := wave (j := n - k) (θ := 4 * dl) d0 (by grind) u1 u2 w1 hW (by grind) (by grind) (by rw [Rat.intCast_sub]; constructor <;> grind)
  exact ⟨v0, by constructor <;> grind⟩

theorem nrSelf {a : Rat} (d0 : (0 : Rat) ≤ dl) : Nr a a (2 * dl) := by constructor <;> grind
theorem hls_step {k : Col} {x R G B ε : Rat} {c o : Int} (h : Near3 k x R G B ε) (he0 : 100 * dl ≤ ε) (he : ε ≤ 1 / 100000000) (hc1 : 2 ≤ c) (hc2 : c ≤ 10) (ho1 : -(4 * c) ≤ o) (ho2 : o ≤ 4 * c) :
    ∃ x' R' G' B', Near3 (hlsStep k c o) x' R' G' B' (ε + 128 * dl) ∧ ∃ j : Int, Nr ((c : Rat) * x') ((c : Rat) * x + (o : Rat) - (c : Rat) * (j : Rat)) (31 * ε) := by
  obtain ⟨a0, a1, a2, j, a3⟩ := hue_f h he0 he
  obtain ⟨_, _, _, _, b0, b1, e0, e1, _, _⟩ := ls_f h he0 he
  obtain ⟨r0, r1, r2, r3, _, _⟩ := ro_f hc1 hc2 ho1 ho2
  obtain ⟨t0, t1, t2⟩ := f13_f
  have d0 := dl0
  have d1 := dl1
  obtain ⟨c1, c2⟩ := cQ hc1 hc2
  unfold hlsStep
  simp only
  generalize hueF k.1 k.2.1 k.2.2 = hue at *
  generalize m2F (lightF k.1 k.2.1 k.2.2) (satF k.1 k.2.1 k.2.2) = m2 at *
  generalize m1F (lightF k.1 k.2.1 k.2.2) (satF k.1 k.2.1 k.2.2) = m1 at *
  generalize ratF o c = ro at *
  refine by_hide fun hn => ?_
  obtain ⟨s0, sn, sB⟩ := add_g a0 r0 (show Bd _ 1 from ⟨a2, Rat.le_trans (by decide +kernel) a1⟩) (show Bd _ 5 from ⟨r2, r3⟩) (by decide +kernel)
  have tB := (show Bd (1 / 3 : Rat) 1 from ⟨by decide +kernel, by decide +kernel⟩).nr (show Nr _ _ dl from ⟨t1, t2⟩)
  obtain ⟨p0, pn, _⟩ := add_g s0 t0 sB tB (by decide +kernel)
  obtain ⟨q0, qn, _⟩ := sub_g s0 t0 sB tB (by decide +kernel)
  obtain ⟨R', G', B', sec, ⟨ρ1, n1, w1, W1⟩, ⟨ρ2, n2, w2, W2⟩, ⟨ρ3, n3, w3, W3⟩⟩ := sec_ex (rv (add hue ro))
  have b1' : Nr (rv m2) 1 (ε + 20 * dl) := b1.mono (by grind)
  have μ0 : 0 ≤ ε + 20 * dl := by grind
  have μ1 : ε + 20 * dl ≤ 1 / 1000 := by grind
  have μ2 : ε + 20 * dl + 84 * dl ≤ ε + 128 * dl := by grind
  obtain ⟨x0, x1⟩ := chan_w (n := n1) e0 b0 p0 e1 b1' μ0 μ1 (nrAdd pn ⟨t1, t2⟩ w1) W1
  obtain ⟨y0, y1⟩ := chan_w (n := n2) e0 b0 s0 e1 b1' μ0 μ1 (by rw [← w2]; exact nrSelf d0) W2
  obtain ⟨z0, z1⟩ := chan_w (n := n3) e0 b0 q0 e1 b1' μ0 μ1 (nrSub2 qn ⟨t1, t2⟩ w3) W3
  refine hn.ex ⟨rv (add hue ro), R', G', B', ⟨x0, y0, z0, sec, x1.mono μ2, y1.mono μ2, z1.mono μ2⟩, j, ?_⟩
  · clear hn
    obtain ⟨s1, s2⟩ := sn
    obtain ⟨r1, r1'⟩ := r1
    obtain ⟨f1, f2⟩ := scale (c := (c : Rat)) (by grind) c2 a3 (by grind)
    obtain ⟨g1, g2⟩ := scale (c := (c : Rat)) (a := rv (add hue ro)) (b := rv hue + rv ro) (e := dl) (by grind) c2 ⟨s1, s2⟩ d0
    constructor <;> grind

theorem trunc_near {h6 : UInt64} (hf : Fi h6) (h0 : -(1 / 1000) ≤ rv h6) (h1 : rv h6 ≤ 50) : 0 ≤ Flt.toInt truncOf h6 ∧ Flt.toInt truncOf h6 ≤ 50 ∧ (Flt.toInt truncOf h6 : Rat) ≤ rv h6 + 1 / 1000 ∧ (0 ≤ rv h6 → (Flt.toInt truncOf h6 : Rat) ≤ rv h6) ∧ (rv h6 < 0 → Flt.toInt truncOf h6 = 0) ∧ rv h6 < (Flt.toInt truncOf h6 : Rat) + 1 := by
  obtain ⟨t1, t2⟩ := trunc_f hf
  by_cases c : 0 ≤ rv h6
  · obtain ⟨a, b, d⟩ := t1 c
    refine ⟨a, ?_, by grind, fun _ => b, fun h => by grind, d⟩
    have : (Flt.toInt truncOf h6 : Rat) ≤ ((50 : Int) : Rat) := by
      have e : ((50 : Int) : Rat) = 50 := rfl
      grind
    exact Rat.intCast_le_intCast.mp this
  · have e := t2 (by grind) (by grind)
    rw [e]
    have e0 : ((0 : Int) : Rat) = 0 := rfl
    exact ⟨by (first | lia | omega), by (first | lia | omega), by grind, fun h => by grind, fun _ => rfl, by grind⟩

theorem fr_f {h : UInt64} (hf : Fi h) (h0 : -(2 * dl) ≤ rv h) (h1 : rv h ≤ 8) :
    Fi (mul h f6) ∧ 0 ≤ iF h ∧ iF h ≤ 50 ∧ Fi (frF h) ∧ Nr (rv (frF h)) (6 * rv h - (iF h : Rat)) (3 * dl) ∧ -(16 * dl) ≤ rv (frF h) ∧ rv (frF h) ≤ 1 + 3 * dl := by
  obtain ⟨c0, c1⟩ := f6_f
  have d0 := dl0
  have d1 := dl1
  obtain ⟨m0, m1, m2⟩ := mul_f hf c0 (by rw [c1]; grind) (by rw [c1]; grind)
  rw [c1] at m1 m2
  obtain ⟨t1, t2, t3, t4, t5, t6⟩ := trunc_near m0 (by grind) (by grind)
  have e : Flt.toInt truncOf (mul h f6) = iF h := rfl
  rw [e] at t1 t2 t3 t4 t5 t6
  obtain ⟨o0, o1, o2⟩ := ofInt_f (i := iF h) (by (first | lia | omega))
  have t5' : rv (mul h f6) < 0 → (iF h : Rat) = 0 := fun q => by rw [t5 q]; rfl
  obtain ⟨s0, ⟨s1, s2⟩, _⟩ := sub_f m0 o0 (by grind) (by grind)
  have e2 : sub (mul h f6) (ofInt (iF h)) = frF h := rfl
  rw [e2] at s0 s1 s2
  exact ⟨m0, t1, t2, s0, ⟨by grind, by grind⟩, by grind, by grind⟩

theorem pqt_f {h s v : UInt64} {mn ε : Rat} (h2 : Fi s) (h3 : Fi v) (hv : Nr (rv v) 1 ε) (he : ε ≤ 1 / 1000) (hmn1 : mn ≤ ε) (hmn2 : -ε ≤ mn) (hs : Nr (rv s * rv v) (rv v - mn) (3 * dl)) (sb1 : rv s ≤ 2) (sb2 : -2 ≤ rv s)
    (hf : Fi (frF h)) (f0 : -(16 * dl) ≤ rv (frF h)) (f1' : rv (frF h) ≤ 1 + 3 * dl) :
    Fi (pF s v) ∧ Nr (rv (pF s v)) 0 (ε + 8 * dl) ∧ Fi (qF h s v) ∧ Nr (rv (qF h s v)) (1 - rv (frF h)) (ε + 40 * dl) ∧ Fi (tF h s v) ∧ Nr (rv (tF h s v)) (rv (frF h)) (ε + 40 * dl) := by
  have d0 := dl0
  have d1 := dl1
  obtain ⟨c0, c1⟩ := f1_f
  have Bv : Bd (rv v) 2 := by obtain ⟨v1, v2⟩ := hv; constructor <;> grind
  have Bs : Bd (rv s) 2 := ⟨sb1, sb2⟩
  have Bf : Bd (rv (frF h)) 2 := ⟨by grind, by grind⟩
  have B1 : Bd (rv f1) 1 := Bd.of c1 (by decide +kernel) (by decide +kernel)
  have Bm : Bd mn 1 := ⟨by grind, by grind⟩
  unfold pF qF tF
  generalize frF h = fr at *
  refine by_hide fun hn => ?_
  obtain ⟨a0, an, aB⟩ := sub_g c0 h2 B1 Bs (by decide +kernel)
  obtain ⟨p0, ⟨p1, p2⟩, _⟩ := mul_g h3 a0 Bv aB (by decide +kernel)
  rw [c1] at an
  obtain ⟨x1, x2⟩ := Bv.mul an.bd
  -- q
  obtain ⟨m0, mm, mB⟩ := mul_g h2 hf Bs Bf (by decide +kernel)
  obtain ⟨n0, nn, nB⟩ := sub_g c0 m0 B1 mB (by decide +kernel)
  obtain ⟨q0, ⟨q1, q2⟩, _⟩ := mul_g h3 n0 Bv nB (by decide +kernel)
  rw [c1] at nn
  obtain ⟨z1, z2⟩ := Bv.mul (nrSub nn mm).bd
  obtain ⟨k1, k2⟩ := Bf.mul hs.bd
  have κ0 : (0 : Rat) ≤ 16 * dl := by grind
  have κ1 : 16 * dl ≤ (1 : Rat) / 1000 := by grind
  obtain ⟨l1, l2⟩ := conv (m1 := mn) (m2 := rv v) (ω := 1 - rv fr) (μ := ε) (κ := 16 * dl) hmn1 hmn2 hv.1 hv.2 he (by grind) (by grind) κ0 κ1
  obtain ⟨l3, l4⟩ := conv (m1 := mn) (m2 := rv v) (ω := rv fr) (μ := ε) (κ := 16 * dl) hmn1 hmn2 hv.1 hv.2 he f0 (by grind) κ0 κ1
  -- t
  obtain ⟨g0, gn, gB⟩ := sub_g c0 hf B1 Bf (by decide +kernel)
  obtain ⟨M0, MM, MB⟩ := mul_g h2 g0 Bs gB (by decide +kernel)
  obtain ⟨N0, NN, NB⟩ := sub_g c0 M0 B1 MB (by decide +kernel)
  obtain ⟨Q0, ⟨Q1, Q2⟩, _⟩ := mul_g h3 N0 Bv NB (by decide +kernel)
  rw [c1] at gn NN
  obtain ⟨z3, z4⟩ := Bv.mul (nrSub NN MM).bd
  obtain ⟨k3, k4⟩ := gB.mul hs.bd
  obtain ⟨k5, k6⟩ := gn.bd.mul (Bv.sub Bm)
  obtain ⟨s1, s2⟩ := hs
  clear an mm nn gn MM NN aB mB nB gB MB NB Bv Bs Bf B1 Bm hv
  refine hn.ex ⟨p0, ⟨?_, ?_⟩, q0, ⟨?_, ?_⟩, Q0, ⟨?_, ?_⟩⟩ <;> clear hn
  · grind
  · grind
  · grind
  · grind
  · grind
  · grind
end Mine.Fl
end
section
namespace Mine.Fl
open PySem PySem.Float64

theorem fmod6 (i : Int) : ∃ q : Int, i = 6 * q + i.fmod 6 ∧ 0 ≤ i.fmod 6 ∧ i.fmod 6 < 6 := by
  have h1 := Int.mul_fdiv_add_fmod i 6
  exact ⟨i.fdiv 6, by (first | lia | omega), Int.fmod_nonneg_of_pos i (by decide), Int.fmod_lt_of_pos i (by decide)⟩

theorem hsv_near {h s v : UInt64} {mn ε : Rat} (h1 : Fi h) (h2 : Fi s) (h3 : Fi v) (hh0 : -(2 * dl) ≤ rv h) (hh1 : rv h ≤ 8) (hv : Nr (rv v) 1 ε) (he0 : 0 ≤ ε) (he : ε ≤ 1 / 1000) (hmn1 : mn ≤ ε) (hmn2 : -ε ≤ mn)
    (hs : Nr (rv s * rv v) (rv v - mn) (3 * dl)) (sb1 : rv s ≤ 2) (sb2 : -2 ≤ rv s) :
    ∃ x' R' G' B', Near3 (hsv2rgbF h s v) x' R' G' B' (ε + 128 * dl) ∧ Nr x' (rv h) (4 * dl) := by
  obtain ⟨_, i0, i1, f0, ⟨f1, f2⟩, f3, f4⟩ := fr_f h1 hh0 hh1
  obtain ⟨p0, p1, q0, q1, t0, t1⟩ := pqt_f (h := h) h2 h3 hv he hmn1 hmn2 hs sb1 sb2 f0 f3 f4
  have d0 := dl0
  have d1 := dl1
  refine by_hide fun hn => ?_
  obtain ⟨q, hq, m0, m1⟩ := fmod6 (iF h)
  have hqr : (iF h : Rat) = 6 * (q : Rat) + ((iF h).fmod 6 : Rat) := by
    have : ((iF h : Int) : Rat) = ((6 * q + (iF h).fmod 6 : Int) : Rat) := by rw [← hq]
    rw [Rat.intCast_add, Rat.intCast_mul] at this; exact this
  obtain ⟨f, g0, g1, g2, g3⟩ : ∃ f : Rat, 0 ≤ f ∧ f ≤ 1 ∧ rv (frF h) - f ≤ 3 * dl ∧ f - rv (frF h) ≤ 16 * dl := by
    by_cases c1 : rv (frF h) < 0
    · exact ⟨0, by grind, by grind, by grind, by grind⟩
    · by_cases c2 : 1 < rv (frF h)
      · exact ⟨1, by grind, by grind, by grind, by grind⟩
      · exact ⟨rv (frF h), by grind, by grind, by grind, by grind⟩
  have hcase : (iF h).fmod 6 = 0 ∨ (iF h).fmod 6 = 1 ∨ (iF h).fmod 6 = 2 ∨ (iF h).fmod 6 = 3 ∨ (iF h).fmod 6 = 4 ∨ (iF h).fmod 6 = 5 := by (first | lia | omega)
  have nf : Nr (rv (frF h)) f (16 * dl) := ⟨by grind, g3⟩
  have nv : Nr (rv v) 1 (ε + 128 * dl) := hv.mono (by grind)
  have np : Nr (rv (pF s v)) 0 (ε + 128 * dl) := p1.mono (by grind)
  have nq : Nr (rv (qF h s v)) (1 - f) (ε + 128 * dl) := (q1.tr (show Nr (1 - rv (frF h)) (1 - f) (16 * dl) from ⟨by grind, by grind⟩)).mono (by grind)
  have nt : Nr (rv (tF h s v)) f (ε + 128 * dl) := (t1.tr nf).mono (by grind)
  have nx : Nr (((iF h : Rat) + f) / 6) (rv h) (4 * dl) := by constructor <;> grind
  have hx : 6 * (((iF h : Rat) + f) / 6) = 6 * (q : Rat) + ((iF h).fmod 6 : Rat) + f := by grind
  clear f1 f2 f3 f4 g2 g3 nf p1 q1 t1 hv hs sb1 sb2 hmn1 hmn2 he he0 hh0 hh1 hqr
  have e0 : ((0 : Int) : Rat) = 0 := rfl
  unfold hsv2rgbF at hn
  rcases hcase with c | c | c | c | c | c
  · rw [if_pos c] at hn
    rw [c, e0, Rat.add_zero] at hx
    exact hn.ex ⟨_, 1, f, 0, ⟨h3, t0, p0, ⟨q, f, g0, g1, .inl ⟨hx, rfl, rfl, rfl⟩⟩, nv, nt, np⟩, nx⟩
  · rw [if_neg (by rw [c]; decide), if_pos c] at hn
    rw [c] at hx
    exact hn.ex ⟨_, 1 - f, 1, 0, ⟨q0, h3, p0, ⟨q, f, g0, g1, .inr (.inl ⟨hx, rfl, rfl, rfl⟩)⟩, nq, nv, np⟩, nx⟩
  · rw [if_neg (by rw [c]; decide), if_neg (by rw [c]; decide), if_pos c] at hn
    rw [c] at hx
    exact hn.ex ⟨_, 0, 1, f, ⟨p0, h3, t0, ⟨q, f, g0, g1, .inr (.inr (.inl ⟨hx, rfl, rfl, rfl⟩))⟩, np, nv, nt⟩, nx⟩
  · rw [if_neg (by rw [c]; decide), if_neg (by rw [c]; decide), if_neg (by rw [c]; decide), if_pos c] at hn
    rw [c] at hx
    exact hn.ex ⟨_, 0, 1 - f, 1, ⟨p0, q0, h3, ⟨q, f, g0, g1, .inr (.inr (.inr (.inl ⟨hx, rfl, rfl, rfl⟩)))⟩, np, nq, nv⟩, nx⟩
  · rw [if_neg (by rw [c]; decide), if_neg (by rw [c]; decide), if_neg (by rw [c]; decide), if_neg (by rw [c]; decide), if_pos c] at hn
    rw [c] at hx
    exact hn.ex ⟨_, f, 0, 1, ⟨t0, p0, h3, ⟨q, f, g0, g1, .inr (.inr (.inr (.inr (.inl ⟨hx, rfl, rfl, rfl⟩))))⟩, nt, np, nv⟩, nx⟩
  · rw [if_neg (by rw [c]; decide), if_neg (by rw [c]; decide), if_neg (by rw [c]; decide), if_neg (by rw [c]; decide), if_neg (by rw [c]; decide)] at hn
    rw [c] at hx
    exact hn.ex ⟨_, 1, 0, 1 - f, ⟨h3, p0, q0, ⟨q, f, g0, g1, .inr (.inr (.inr (.inr (.inr ⟨hx, rfl, rfl, rfl⟩))))⟩, nv, np, nq⟩, nx⟩

theorem sv_f {k : Col} {x R G B ε : Rat} (h : Near3 k x R G B ε) (he0 : 100 * dl ≤ ε) (he : ε ≤ 1 / 100000000) :
    Fi (satV k.1 k.2.1 k.2.2) ∧ Nr (rv (satV k.1 k.2.1 k.2.2)) 1 (12 * ε) ∧ Nr (rv (satV k.1 k.2.1 k.2.2) * rv (max3F k.1 k.2.1 k.2.2)) (rv (max3F k.1 k.2.1 k.2.2) - rv (min3F k.1 k.2.1 k.2.2)) (3 * dl) ∧ rv (max3F k.1 k.2.1 k.2.2) ≠ 0 ∧ rv (sub (max3F k.1 k.2.1 k.2.2) (min3F k.1 k.2.1 k.2.2)) ≠ 0 ∧ rv (min3F k.1 k.2.1 k.2.2) ≠ rv (max3F k.1 k.2.1 k.2.2) := by
  have d0 := dl0
  have d1 := dl1
  obtain ⟨M0, M1, M2⟩ := mx_f h he0 he
  obtain ⟨N0, N1, N2⟩ := mn_f h he0 he
  obtain ⟨g0, ⟨g1, g2⟩, g3, g4⟩ := rg_f h he0 he
  unfold satV
  generalize max3F k.1 k.2.1 k.2.2 = mx at *
  generalize min3F k.1 k.2.1 k.2.2 = mn at *
  obtain ⟨s0, s1, s2⟩ := div_f g0 M0 (by grind) (by grind) (by grind)
  obtain ⟨r1, r2⟩ := quot_near d0 (by grind) s1 s2 (b := ε) ⟨by grind, by grind⟩ (by grind) (by grind) (by grind)
  have p4 := Rat.mul_nonneg (show (0 : Rat) ≤ 2 - rv mx by grind) d0
  exact ⟨s0, ⟨by grind, by grind⟩, ⟨by grind, by grind⟩, by grind, by grind, by grind⟩

theorem hsv_step {k : Col} {x R G B ε : Rat} {c o : Int} (h : Near3 k x R G B ε) (he0 : 100 * dl ≤ ε) (he : ε ≤ 1 / 100000000) (hc1 : 2 ≤ c) (hc2 : c ≤ 10) (ho1 : 0 ≤ o) (ho2 : o ≤ 4 * c) :
    ∃ x' R' G' B', Near3 (hsvStep k c o) x' R' G' B' (ε + 128 * dl) ∧ ∃ j : Int, Nr ((c : Rat) * x') ((c : Rat) * x + (o : Rat) - (c : Rat) * (j : Rat)) (31 * ε) := by
  obtain ⟨a0, a1, a2, j, a3⟩ := hue_f h he0 he
  obtain ⟨b0, ⟨b1, b2⟩, b3, _⟩ := sv_f h he0 he
  obtain ⟨M0, M1⟩ := mx_f h he0 he
  obtain ⟨N0, N1, N2⟩ := mn_f h he0 he
  obtain ⟨r0, r1, r2, r3, r4, _⟩ := ro_f (o := o) hc1 hc2 (by (first | lia | omega)) ho2
  have r5 := r4 ho1
  have d0 := dl0
  have d1 := dl1
  obtain ⟨c1, c2⟩ := cQ hc1 hc2
  unfold hsvStep
  generalize hueF k.1 k.2.1 k.2.2 = hue at *
  generalize satV k.1 k.2.1 k.2.2 = s at *
  generalize max3F k.1 k.2.1 k.2.2 = v at *
  generalize min3F k.1 k.2.1 k.2.2 = mn at *
  generalize ratF o c = ro at *
  obtain ⟨s0, ⟨s1, s2⟩, _⟩ := add_f a0 r0 (by grind) (by grind)
  obtain ⟨x', R', G', B', n, n1⟩ := hsv_near (mn := rv mn) s0 b0 M0 (by grind) (by grind) M1 (by grind) (by grind) (by grind) (by grind) b3 (by grind) (by grind)
  refine ⟨x', R', G', B', n, j, ?_⟩
  obtain ⟨r1, r1'⟩ := r1
  obtain ⟨f1, f2⟩ := scale (c := (c : Rat)) (by grind) c2 a3 (by grind)
  obtain ⟨g1, g2⟩ := scale (c := (c : Rat)) (a := rv (add hue ro)) (b := rv hue + rv ro) (e := dl) (by grind) c2 ⟨s1, s2⟩ d0
  obtain ⟨k1, k2⟩ := scale (c := (c : Rat)) (by grind) c2 n1 (by grind)
  constructor <;> grind

theorem start_f {c f : Int} (hc1 : 2 ≤ c) (hc2 : c ≤ 10) (hf1 : 0 ≤ f) (hf2 : f < c) :
    ∃ x' R' G' B', Near3 (hsv2rgbF (ratF f c) f1 f1) x' R' G' B' (128 * dl) ∧ ∃ j : Int, Nr ((c : Rat) * x') ((f : Rat) - (c : Rat) * (j : Rat)) (160 * dl) := by
  have hfc : (f : Rat) - (c : Rat) ≤ 0 := by
    have : (f : Rat) ≤ (c : Rat) := Rat.intCast_le_intCast.mpr (by (first | lia | omega))
    grind
  obtain ⟨r0, ⟨r1, r1'⟩, r2, r3, r4, r5⟩ := ro_f (o := f) hc1 hc2 (by (first | lia | omega)) (by (first | lia | omega))
  have r6 := r4 hf1
  have d0 := dl0
  have d1 := dl1
  obtain ⟨c1, c2⟩ := cQ hc1 hc2
  obtain ⟨t0, t1⟩ := f1_f
  obtain ⟨x', R', G', B', n, n1⟩ := hsv_near (mn := 0) (ε := 0) r0 t0 t0 (by grind) (by grind) (by rw [t1]; constructor <;> grind) (by grind) (by grind) (by grind) (by grind) (by rw [t1]; constructor <;> grind) (by rw [t1]; grind) (by rw [t1]; grind)
  rw [Rat.zero_add] at n
  refine ⟨x', R', G', B', n, 0, ?_⟩
  obtain ⟨k1, k2⟩ := scale (c := (c : Rat)) (by grind) c2 n1 (by grind)
  have e : ((0 : Int) : Rat) = 0 := rfl
  rw [e]
  constructor <;> grind

noncomputable def placeZ (f o1 o2 : Int) (t : Nat) : Int := f + ((t / 2 : Nat) : Int) * (o1 + o2) + ((t % 2 : Nat) : Int) * o1
theorem place_succ (f o1 o2 : Int) (t : Nat) : placeZ f o1 o2 (t + 1) = placeZ f o1 o2 t + (if t % 2 = 0 then o1 else o2) := by
  unfold placeZ
  by_cases h : t % 2 = 0
  · have e1 : (t + 1) / 2 = t / 2 := by (first | lia | omega)
    have e2 : (t + 1) % 2 = 1 := by (first | lia | omega)
    rw [e1, e2, h]; simp
  · have e1 : (t + 1) / 2 = t / 2 + 1 := by (first | lia | omega)
    have e2 : (t + 1) % 2 = 0 := by (first | lia | omega)
    have e3 : t % 2 = 1 := by (first | lia | omega)
    rw [e1, e2, e3, if_neg (by (first | lia | omega))]
    simp only [Int.natCast_add, Int.add_mul]
    (first | lia | omega)

noncomputable def epsT (t : Nat) : Rat := ((t + 1 : Nat) : Rat) * (128 * dl)
noncomputable def errT (t : Nat) : Rat := ((t + 1 : Nat) : Rat) * (280000 * dl)

theorem inv_f {c f o1 o2 : Int} (hc1 : 2 ≤ c) (hc2 : c ≤ 10) (hf1 : 0 ≤ f) (hf2 : f < c) (ho1 : -(4 * c) ≤ o1) (ho2 : o1 ≤ 4 * c) (ho3 : 0 ≤ o2) (ho4 : o2 ≤ 4 * c) :
    ∀ t : Nat, t ≤ 66 → ∃ x R G B, Near3 (colAt c f o1 o2 t) x R G B (epsT t) ∧ ∃ j : Int, Nr ((c : Rat) * x) ((placeZ f o1 o2 t : Rat) - (c : Rat) * (j : Rat)) (errT t) := by
  have d0 := dl0
  have d1 := dl1
  intro t
  induction t with
  | zero =>
    intro _
    obtain ⟨x, R, G, B, n, j, h1, h2⟩ := start_f hc1 hc2 hf1 hf2
    have e1 : epsT 0 = 128 * dl := by unfold epsT; exact Rat.one_mul _
    have e2 : errT 0 = 280000 * dl := by unfold errT; exact Rat.one_mul _
    have e3 : placeZ f o1 o2 0 = f := by simp [placeZ]
    refine ⟨x, R, G, B, by rw [e1]; exact n, j, ?_⟩
    rw [e2, e3]
    constructor <;> grind
  | succ t ih =>
    intro ht
    obtain ⟨x, R, G, B, n, j, h1, h2⟩ := ih (by (first | lia | omega))
    have hb : ((t + 1 : Nat) : Rat) ≤ 67 := by
      have : ((t + 1 : Nat) : Rat) ≤ ((67 : Nat) : Rat) := Rat.natCast_le_natCast.mpr (by (first | lia | omega))
      exact this
    have hb0 : (1 : Rat) ≤ ((t + 1 : Nat) : Rat) := by
      have : ((1 : Nat) : Rat) ≤ ((t + 1 : Nat) : Rat) := Rat.natCast_le_natCast.mpr (by (first | lia | omega))
      exact this
    have e1 : epsT (t + 1) = epsT t + 128 * dl := by
      unfold epsT
      have : ((t + 1 + 1 : Nat) : Rat) = ((t + 1 : Nat) : Rat) + 1 := Rat.natCast_add _ _
      rw [this, Rat.add_mul, Rat.one_mul]
    have e2 : errT (t + 1) = errT t + 280000 * dl := by
      unfold errT
      have : ((t + 1 + 1 : Nat) : Rat) = ((t + 1 : Nat) : Rat) + 1 := Rat.natCast_add _ _
      rw [this, Rat.add_mul, Rat.one_mul]
    have hE : 100 * dl ≤ epsT t ∧ epsT t ≤ 8576 * dl := by
      unfold epsT
      have p1 := Rat.mul_nonneg (show (0 : Rat) ≤ ((t + 1 : Nat) : Rat) - 1 by grind) d0
      have p2 := Rat.mul_nonneg (show (0 : Rat) ≤ 67 - ((t + 1 : Nat) : Rat) by grind) d0
      constructor <;> grind
    have d2 : 8576 * dl ≤ (1 : Rat) / 100000000 := by decide +kernel
    have hp := place_succ f o1 o2 t
    have hc : colAt c f o1 o2 (t + 1) = if t % 2 = 0 then hlsStep (colAt c f o1 o2 t) c o1 else hsvStep (colAt c f o1 o2 t) c o2 := rfl
    by_cases ev : t % 2 = 0
    · rw [if_pos ev] at hp hc
      obtain ⟨x', R', G', B', n', j', k1, k2⟩ := hls_step n (by grind) (by grind) hc1 hc2 ho1 ho2
      rw [hc, e1, e2, hp]
      refine ⟨x', R', G', B', n', j + j', ?_⟩
      rw [Rat.intCast_add, Rat.intCast_add]
      constructor <;> grind
    · rw [if_neg ev] at hp hc
      obtain ⟨x', R', G', B', n', j', k1, k2⟩ := hsv_step n (by grind) (by grind) hc1 hc2 ho3 ho4
      rw [hc, e1, e2, hp]
      refine ⟨x', R', G', B', n', j + j', ?_⟩
      rw [Rat.intCast_add, Rat.intCast_add]
      constructor <;> grind
end Mine.Fl
end
section
namespace Mine.Fl
open PySem PySem.Float64

theorem near_true {x y : UInt64} (hx : Fi x) (hy : Fi y) (h : Nr (rv x) (rv y) (95 / 100000000)) : nearF x y = true := by
  obtain ⟨h1, h2⟩ := h
  have d0 := dl0
  have d1 := dl1
  obtain ⟨s0, ⟨s1, s2⟩, _⟩ := sub_f hx hy (by grind) (by grind)
  obtain ⟨a0, a1⟩ := abs_f s0
  obtain ⟨c0, c1, c2⟩ := fMu_f
  unfold nearF
  refine (cmp_lt a0 c0).mpr ?_
  rcases a1 with a1 | a1 <;> rw [a1] <;> grind

theorem errT_le {t : Nat} (ht : t ≤ 66) : 0 ≤ errT t ∧ errT t ≤ 15 / 100000000 := by
  have d0 := dl0
  have hb : ((t + 1 : Nat) : Rat) ≤ 67 := by
    have : ((t + 1 : Nat) : Rat) ≤ ((67 : Nat) : Rat) := Rat.natCast_le_natCast.mpr (by omega)
    exact this
  have hb0 : (0 : Rat) ≤ ((t + 1 : Nat) : Rat) := Rat.natCast_nonneg
  have d2 : 67 * (280000 * dl) ≤ (15 : Rat) / 100000000 := by decide +kernel
  unfold errT
  have p2 := Rat.mul_nonneg (show (0 : Rat) ≤ 67 - ((t + 1 : Nat) : Rat) by grind) d0
  have p1 := Rat.mul_nonneg hb0 d0
  constructor <;> grind
theorem epsT_le {t : Nat} (ht : t ≤ 66) : 100 * dl ≤ epsT t ∧ epsT t ≤ 1 / 1000000000 := by
  have d0 := dl0
  have hb : ((t + 1 : Nat) : Rat) ≤ 67 := by
    have : ((t + 1 : Nat) : Rat) ≤ ((67 : Nat) : Rat) := Rat.natCast_le_natCast.mpr (by omega)
    exact this
  have hb0 : (1 : Rat) ≤ ((t + 1 : Nat) : Rat) := by
    have : ((1 : Nat) : Rat) ≤ ((t + 1 : Nat) : Rat) := Rat.natCast_le_natCast.mpr (by omega)
    exact this
  have d2 : 67 * (128 * dl) ≤ (1 : Rat) / 1000000000 := by decide +kernel
  unfold epsT
  have p1 := Rat.mul_nonneg (show (0 : Rat) ≤ ((t + 1 : Nat) : Rat) - 1 by grind) d0
  have p2 := Rat.mul_nonneg (show (0 : Rat) ≤ 67 - ((t + 1 : Nat) : Rat) by grind) d0
  constructor <;> grind

noncomputable def placeOf (x : UInt64) : Int := Flt.toInt nearestOf x

theorem near_int {p n : Int} {v η : Rat} (h1 : v - (p : Rat) ≤ 1 / 2) (h2 : (p : Rat) - v ≤ 1 / 2) (h : Nr v (n : Rat) η) (hη : η ≤ 1 / 10) : p = n := by
  obtain ⟨a, b⟩ := h
  have k1 : ((p - n : Int) : Rat) < ((1 : Int) : Rat) := by
    have e : ((1 : Int) : Rat) = 1 := rfl
    rw [Rat.intCast_sub, e]; grind
  have k2 : ((-1 : Int) : Rat) < ((p - n : Int) : Rat) := by
    have e : ((-1 : Int) : Rat) = -1 := rfl
    rw [Rat.intCast_sub, e]; grind
  have k1' := Rat.intCast_lt_intCast.mp k1
  have k2' := Rat.intCast_lt_intCast.mp k2
  omega

structure Par (c f o1 o2 : Int) : Prop where
  hc1 : 2 ≤ c
  hc2 : c ≤ 10
  hf1 : 0 ≤ f
  hf2 : f < c
  ho1 : -(4 * c) ≤ o1
  ho2 : o1 ≤ 4 * c
  ho3 : 0 ≤ o2
  ho4 : o2 ≤ 4 * c

theorem Par.inv {c f o1 o2 : Int} (P : Par c f o1 o2) (t : Nat) (ht : t ≤ 66) : ∃ x R G B, Near3 (colAt c f o1 o2 t) x R G B (epsT t) ∧ ∃ j : Int, Nr ((c : Rat) * x) ((placeZ f o1 o2 t : Rat) - (c : Rat) * (j : Rat)) (errT t) :=
  inv_f P.hc1 P.hc2 P.hf1 P.hf2 P.ho1 P.ho2 P.ho3 P.ho4 t ht

theorem mulc_f {c : Int} {x : UInt64} (hc1 : 2 ≤ c) (hc2 : c ≤ 10) (hx : Fi x) (h1 : rv x ≤ 2) (h2 : -2 ≤ rv x) : Fi (mul x (ofInt c)) ∧ Nr (rv (mul x (ofInt c))) ((c : Rat) * rv x) (3 * dl) := by
  obtain ⟨c1, c2⟩ := cQ hc1 hc2
  have d0 := dl0
  have d1 := dl1
  obtain ⟨o0, o1, o2⟩ := ofInt_f (i := c) (by omega)
  obtain ⟨p1, p2⟩ := prod_small (a := rv x) (b := rv (ofInt c)) (p := 2) (q := 11) (by decide +kernel) (by decide +kernel) h1 h2 (by grind) (by grind)
  obtain ⟨q1, q2⟩ := prod_small (a := rv x) (b := rv (ofInt c) - (c : Rat)) (p := 2) (q := dl) (by decide +kernel) d0 h1 h2 (by grind) (by grind)
  obtain ⟨m0, m1, m2⟩ := mul_f hx o0 (by grind) (by grind)
  exact ⟨m0, by constructor <;> grind⟩

theorem place_f {c f o1 o2 : Int} (P : Par c f o1 o2) {t : Nat} (ht : t ≤ 66) :
    Fi (hueAt c f o1 o2 t) ∧ isLe 0 (hueAt c f o1 o2 t) = true ∧ isLe (hueAt c f o1 o2 t) f1 = true ∧ Fi (mul (hueAt c f o1 o2 t) (ofInt c)) ∧
    0 ≤ placeOf (mul (hueAt c f o1 o2 t) (ofInt c)) ∧ placeOf (mul (hueAt c f o1 o2 t) (ofInt c)) ≤ 10 ∧
    (placeOf (mul (hueAt c f o1 o2 t) (ofInt c))).fmod c = (placeZ f o1 o2 t).fmod c ∧
    nearF (mul (hueAt c f o1 o2 t) (ofInt c)) (ofInt (placeOf (mul (hueAt c f o1 o2 t) (ofInt c)))) = true := by
  obtain ⟨x, R, G, B, n, j, h1, h2⟩ := P.inv t ht
  obtain ⟨e0, e1⟩ := errT_le ht
  obtain ⟨e2, e3⟩ := epsT_le ht
  obtain ⟨u0, u1, u2, i, u3⟩ := hue_f n e2 (by grind)
  have eh : hueF (colAt c f o1 o2 t).1 (colAt c f o1 o2 t).2.1 (colAt c f o1 o2 t).2.2 = hueAt c f o1 o2 t := rfl
  rw [eh] at u0 u1 u2 u3
  generalize hueAt c f o1 o2 t = hue at *
  obtain ⟨c1, c2⟩ := cQ P.hc1 P.hc2
  have d0 := dl0
  have d1 := dl1
  obtain ⟨k1, k2⟩ := scale (c := (c : Rat)) (by grind) c2 u3 (by grind)
  obtain ⟨m0, m1, m2⟩ := mulc_f P.hc1 P.hc2 u0 (by grind) (by grind)
  obtain ⟨q1, q2⟩ := nearest_f m0
  have hcast : ((placeZ f o1 o2 t - c * (j + i) : Int) : Rat) = (placeZ f o1 o2 t : Rat) - (c : Rat) * ((j : Rat) + (i : Rat)) := by
    rw [Rat.intCast_sub, Rat.intCast_mul, Rat.intCast_add]
  have hN : Nr (rv (mul hue (ofInt c))) ((placeZ f o1 o2 t - c * (j + i) : Int) : Rat) (50 / 100000000) := by
    rw [hcast]; constructor <;> grind
  have hp : placeOf (mul hue (ofInt c)) = placeZ f o1 o2 t - c * (j + i) := near_int q1 q2 hN (by decide +kernel)
  have p0 := Rat.mul_nonneg (show (0 : Rat) ≤ (c : Rat) by grind) u1
  have p1 := Rat.mul_nonneg (show (0 : Rat) ≤ (c : Rat) by grind) (show (0 : Rat) ≤ 1 - rv hue by grind)
  obtain ⟨z0, z1⟩ := f0_f
  obtain ⟨t0, t1⟩ := f1_f
  obtain ⟨n1, n2⟩ := id hN
  have b0 : 0 ≤ placeZ f o1 o2 t - c * (j + i) := by
    have : ((-1 : Int) : Rat) < ((placeZ f o1 o2 t - c * (j + i) : Int) : Rat) := by
      have e : ((-1 : Int) : Rat) = -1 := rfl
      rw [e]; grind
    have := Rat.intCast_lt_intCast.mp this
    omega
  have b1 : placeZ f o1 o2 t - c * (j + i) ≤ 10 := by
    have : ((placeZ f o1 o2 t - c * (j + i) : Int) : Rat) < ((11 : Int) : Rat) := by
      have e : ((11 : Int) : Rat) = 11 := rfl
      rw [e]; grind
    have := Rat.intCast_lt_intCast.mp this
    omega
  refine ⟨u0, (le_f z0 u0).mpr (by rw [z1]; exact u1), (le_f u0 t0).mpr (by rw [t1]; exact u2), m0, by rw [hp]; exact b0, by rw [hp]; exact b1, ?_, ?_⟩
  · rw [hp]
    have hc0 : 0 ≤ c := by have := P.hc1; omega
    rw [Int.fmod_eq_emod_of_nonneg _ hc0, Int.fmod_eq_emod_of_nonneg _ hc0, Int.sub_eq_add_neg, ← Int.mul_neg, Int.add_mul_emod_self_left]
  · rw [hp]
    obtain ⟨o0, w1, w2⟩ := ofInt_f (i := placeZ f o1 o2 t - c * (j + i)) (by omega)
    exact near_true m0 o0 (by constructor <;> grind)

noncomputable def redZ (c f : Int) : Int := c - min (max (6 * min f (c - f) - c) 0) c

theorem sec_red {x R G B : Rat} (hS : Sec x R G B) : ∃ (ρ : Rat) (n : Int), x + 1 / 3 = ρ + (n : Rat) ∧ Wv ρ R := by
  obtain ⟨q, f, f0, f1, h⟩ := hS
  have hq := castSucc q
  rcases h with ⟨e, rfl, _⟩ | ⟨e, rfl, _⟩ | ⟨e, rfl, _⟩ | ⟨e, rfl, _⟩ | ⟨e, rfl, _⟩ | ⟨e, rfl, _⟩
  · exact ⟨x + 1 / 3 - q, q, by grind, .inr (.inl ⟨by grind, by grind, rfl⟩)⟩
  · exact ⟨x + 1 / 3 - q, q, by grind, .inr (.inr (.inl ⟨by grind, by grind, by grind⟩))⟩
  · exact ⟨x + 1 / 3 - q, q, by grind, .inr (.inr (.inr ⟨by grind, by grind, rfl⟩))⟩
  · exact ⟨x + 1 / 3 - q, q, by grind, .inr (.inr (.inr ⟨by grind, by grind, rfl⟩))⟩
  · exact ⟨x + 1 / 3 - ((q + 1 : Int) : Rat), q + 1, by grind, .inl ⟨by grind, by grind, by grind⟩⟩
  · exact ⟨x + 1 / 3 - ((q + 1 : Int) : Rat), q + 1, by grind, .inr (.inl ⟨by grind, by grind, rfl⟩)⟩
theorem Wv.wd {ρ v : Rat} (h : Wv ρ v) : Wd 0 ρ v := by
  rcases h with ⟨_, b, c⟩ | ⟨a, b, c⟩ | ⟨a, b, c⟩ | ⟨a, b, c⟩
  · exact .inl ⟨by rw [Rat.add_zero]; exact b, c⟩
  · exact .inr (.inl ⟨by rw [Rat.sub_eq_add_neg, Rat.neg_zero, Rat.add_zero]; exact a, b, c⟩)
  · exact .inr (.inr (.inl ⟨a, by rw [Rat.add_zero]; exact b, c⟩))
  · exact .inr (.inr (.inr ⟨by rw [Rat.sub_eq_add_neg, Rat.neg_zero, Rat.add_zero]; exact a, c⟩))
/-- the red of the hue near ρ + n -/
theorem red_sec {x R G B ρ θ : Rat} {n : Int} (hS : Sec x R G B) (hn : Nr x (ρ + (n : Rat)) θ) (r0 : 0 ≤ ρ) (r1 : ρ ≤ 1) (hθ0 : 0 ≤ θ) (hθ : θ ≤ 1 / 1000) :
    ∃ v, Nr R v (6 * θ) ∧ ((ρ ≤ 1 / 6 ∧ v = 1) ∨ (1 / 6 ≤ ρ ∧ ρ ≤ 1 / 3 ∧ v = 2 - 6 * ρ) ∨ (1 / 3 ≤ ρ ∧ ρ ≤ 2 / 3 ∧ v = 0) ∨ (2 / 3 ≤ ρ ∧ ρ ≤ 5 / 6 ∧ v = 6 * ρ - 4) ∨ (5 / 6 ≤ ρ ∧ v = 1)) := by
  obtain ⟨ρ1, n1, e1, W1⟩ := sec_red hS
  clear hS
  obtain ⟨n2, n3⟩ := hn
  have hv : ∃ (v : Rat) (k : Int), Wv (ρ + 1 / 3 - (k : Rat)) v ∧ ((ρ ≤ 1 / 6 ∧ v = 1) ∨ (1 / 6 ≤ ρ ∧ ρ ≤ 1 / 3 ∧ v = 2 - 6 * ρ) ∨ (1 / 3 ≤ ρ ∧ ρ ≤ 2 / 3 ∧ v = 0) ∨ (2 / 3 ≤ ρ ∧ ρ ≤ 5 / 6 ∧ v = 6 * ρ - 4) ∨ (5 / 6 ≤ ρ ∧ v = 1)) := by
    clear e1 W1 n2 n3
    have k0 : ((0 : Int) : Rat) = 0 := rfl
    have k1 : ((1 : Int) : Rat) = 1 := rfl
    by_cases c1 : ρ ≤ 1 / 6
    · exact ⟨1, 0, .inr (.inl ⟨by grind, by grind, rfl⟩), .inl ⟨c1, rfl⟩⟩
    · by_cases c2 : ρ ≤ 1 / 3
      · exact ⟨_, 0, .inr (.inr (.inl ⟨by grind, by grind, by grind⟩)), .inr (.inl ⟨by grind, c2, rfl⟩)⟩
      · by_cases c3 : ρ ≤ 2 / 3
        · exact ⟨_, 0, .inr (.inr (.inr ⟨by grind, by grind, rfl⟩)), .inr (.inr (.inl ⟨by grind, c3, rfl⟩))⟩
        · by_cases c4 : ρ ≤ 5 / 6
          · exact ⟨_, 1, .inl ⟨by grind, by grind, by grind⟩, .inr (.inr (.inr (.inl ⟨by grind, c4, rfl⟩)))⟩
          · exact ⟨1, 1, .inr (.inl ⟨by grind, by grind, rfl⟩), .inr (.inr (.inr (.inr ⟨by grind, rfl⟩)))⟩
  obtain ⟨v, k, W2, hv⟩ := hv
  refine ⟨v, ?_, hv⟩
  have wb := W1.wb
  obtain ⟨z1, z2⟩ := wave (j := n + k - n1) (θ := θ) (d := 0) (by decide +kernel) (by decide +kernel) wb.r0 wb.r1 W1.wd W2 hθ0 (by grind) (by
    rw [Rat.intCast_sub, Rat.intCast_add]
    clear W1 W2 hv wb
    constructor <;> grind)
  constructor <;> grind

theorem int_of_le {a b : Int} (h : (a : Rat) ≤ (b : Rat)) : a ≤ b := Rat.intCast_le_intCast.mp h

theorem red_int {c f : Int} {ρ v : Rat} (hc1 : 2 ≤ c) (hc2 : c ≤ 10) (hf1 : 0 ≤ f) (hf2 : f < c) (hρ : (c : Rat) * ρ = (f : Rat))
    (hv : (ρ ≤ 1 / 6 ∧ v = 1) ∨ (1 / 6 ≤ ρ ∧ ρ ≤ 1 / 3 ∧ v = 2 - 6 * ρ) ∨ (1 / 3 ≤ ρ ∧ ρ ≤ 2 / 3 ∧ v = 0) ∨ (2 / 3 ≤ ρ ∧ ρ ≤ 5 / 6 ∧ v = 6 * ρ - 4) ∨ (5 / 6 ≤ ρ ∧ v = 1)) :
    (c : Rat) * v = (redZ c f : Rat) := by
  obtain ⟨c1, c2⟩ := cQ hc1 hc2
  have up : ∀ (p q : Rat), q ≤ ρ → (c : Rat) * q ≤ (f : Rat) := fun p q h => by
    have := Rat.mul_nonneg (show (0 : Rat) ≤ (c : Rat) by grind) (show (0 : Rat) ≤ ρ - q by grind)
    grind
  have dn : ∀ (p q : Rat), ρ ≤ q → (f : Rat) ≤ (c : Rat) * q := fun p q h => by
    have := Rat.mul_nonneg (show (0 : Rat) ≤ (c : Rat) by grind) (show (0 : Rat) ≤ q - ρ by grind)
    grind
  have cI : ∀ (a b : Int), ((a * f : Int) : Rat) ≤ ((b * c : Int) : Rat) → a * f ≤ b * c := fun a b h => int_of_le h
  have cJ : ∀ (a b : Int), ((b * c : Int) : Rat) ≤ ((a * f : Int) : Rat) → b * c ≤ a * f := fun a b h => int_of_le h
  have e6 : ((6 : Int) : Rat) = 6 := rfl
  have e3 : ((3 : Int) : Rat) = 3 := rfl
  have e1 : ((1 : Int) : Rat) = 1 := rfl
  have e2 : ((2 : Int) : Rat) = 2 := rfl
  have e5 : ((5 : Int) : Rat) = 5 := rfl
  have e4 : ((4 : Int) : Rat) = 4 := rfl
  unfold redZ
  rcases hv with ⟨a1, rfl⟩ | ⟨a1, a2, rfl⟩ | ⟨a1, a2, rfl⟩ | ⟨a1, a2, rfl⟩ | ⟨a1, rfl⟩
  · have b1 := cI 6 1 (by rw [Rat.intCast_mul, Rat.intCast_mul, e6, e1]; have := dn 0 _ a1; grind)
    rw [show c - min (max (6 * min f (c - f) - c) 0) c = c by omega, Rat.mul_one]
  · have b1 := cJ 6 1 (by rw [Rat.intCast_mul, Rat.intCast_mul, e6, e1]; have := up 0 _ a1; grind)
    have b2 := cI 3 1 (by rw [Rat.intCast_mul, Rat.intCast_mul, e3, e1]; have := dn 0 _ a2; grind)
    rw [show c - min (max (6 * min f (c - f) - c) 0) c = 2 * c - 6 * f by omega, Rat.intCast_sub, Rat.intCast_mul, Rat.intCast_mul, e2, e6, ← hρ]; grind
  · have b1 := cJ 3 1 (by rw [Rat.intCast_mul, Rat.intCast_mul, e3, e1]; have := up 0 _ a1; grind)
    have b2 := cI 3 2 (by rw [Rat.intCast_mul, Rat.intCast_mul, e3, e2]; have := dn 0 _ a2; grind)
    rw [show c - min (max (6 * min f (c - f) - c) 0) c = 0 by omega, Rat.mul_zero]; rfl
  · have b1 := cJ 3 2 (by rw [Rat.intCast_mul, Rat.intCast_mul, e3, e2]; have := up 0 _ a1; grind)
    have b2 := cI 6 5 (by rw [Rat.intCast_mul, Rat.intCast_mul, e6, e5]; have := dn 0 _ a2; grind)
    rw [show c - min (max (6 * min f (c - f) - c) 0) c = 6 * f - 4 * c by omega, Rat.intCast_sub, Rat.intCast_mul, Rat.intCast_mul, e4, e6, ← hρ]; grind
  · have b1 := cJ 6 5 (by rw [Rat.intCast_mul, Rat.intCast_mul, e6, e5]; have := up 0 _ a1; grind)
    rw [show c - min (max (6 * min f (c - f) - c) 0) c = c by omega, Rat.mul_one]

theorem red_f {c f o1 o2 : Int} (P : Par c f o1 o2) {t : Nat} (ht : t ≤ 66) (hm : (placeZ f o1 o2 t).fmod c = f) :
    nearF (mul (colAt c f o1 o2 t).1 (ofInt c)) (ofInt (redZ c f)) = true := by
  obtain ⟨x, R, G, B, n, j, h1, h2⟩ := P.inv t ht
  obtain ⟨e0, e1⟩ := errT_le ht
  obtain ⟨e2, e3⟩ := epsT_le ht
  obtain ⟨c1, c2⟩ := cQ P.hc1 P.hc2
  have d0 := dl0
  have d1 := dl1
  have hP : placeZ f o1 o2 t = f + c * (placeZ f o1 o2 t).fdiv c := by
    have := Int.mul_fdiv_add_fmod (placeZ f o1 o2 t) c
    omega
  generalize (placeZ f o1 o2 t).fdiv c = m at hP
  rw [hP, Rat.intCast_add, Rat.intCast_mul] at h1 h2
  have hcne : (c : Rat) ≠ 0 := by grind
  have hρ : (c : Rat) * ((f : Rat) / (c : Rat)) = (f : Rat) := by rw [Rat.mul_comm]; exact Rat.div_mul_cancel hcne
  generalize (f : Rat) / (c : Rat) = ρ at hρ
  have hff1 : (0 : Rat) ≤ (f : Rat) := Rat.intCast_le_intCast.mpr P.hf1
  have hff2 : (f : Rat) ≤ (c : Rat) := Rat.intCast_le_intCast.mpr (by have := P.hf2; omega)
  have r0 : 0 ≤ ρ := by
    apply Rat.not_lt.mp
    intro h
    have := Rat.mul_pos (show (0 : Rat) < (c : Rat) by grind) (show (0 : Rat) < -ρ by grind)
    grind
  have r1 : ρ ≤ 1 := by
    apply Rat.not_lt.mp
    intro h
    have := Rat.mul_pos (show (0 : Rat) < (c : Rat) by grind) (show (0 : Rat) < ρ - 1 by grind)
    grind
  obtain ⟨θ, t0, t1, t2, t3⟩ : ∃ θ : Rat, 0 ≤ θ ∧ (c : Rat) * θ ≤ errT t ∧ Nr x (ρ + ((m - j : Int) : Rat)) θ ∧ θ ≤ 1 / 1000 := by
    rw [Rat.intCast_sub]
    have small : ∀ D : Rat, 0 ≤ D → (c : Rat) * D ≤ errT t → D ≤ 1 / 1000 := by
      intro D hD hc
      apply Rat.not_lt.mp
      intro h
      have := Rat.mul_pos (show (0 : Rat) < (c : Rat) by grind) (show (0 : Rat) < D - 1 / 1000 by grind)
      grind
    by_cases c : 0 ≤ x - (ρ + ((m : Rat) - (j : Rat)))
    · exact ⟨_, c, by grind, ⟨by grind, by grind⟩, small _ c (by grind)⟩
    · exact ⟨-(x - (ρ + ((m : Rat) - (j : Rat)))), by grind, by grind, ⟨by grind, by grind⟩, small _ (by grind) (by grind)⟩
  obtain ⟨v, ⟨v1, v2⟩, hv⟩ := red_sec n.sec t2 r0 r1 t0 t3
  have hcv := red_int P.hc1 P.hc2 P.hf1 P.hf2 hρ hv
  obtain ⟨R0, R1, _⟩ := sec_01 n.sec
  obtain ⟨n1, n2⟩ := n.nr
  obtain ⟨m0, m1, m2⟩ := mulc_f P.hc1 P.hc2 n.fr (by grind) (by grind)
  have b0 : 0 ≤ redZ c f ∧ redZ c f ≤ 10 := by
    have := P.hc1; have := P.hc2; have := P.hf1; have := P.hf2
    unfold redZ; omega
  obtain ⟨o0, w1, w2⟩ := ofInt_f (i := redZ c f) (by omega)
  refine near_true m0 o0 ?_
  have p1 := Rat.mul_nonneg (show (0 : Rat) ≤ (c : Rat) by grind) (show (0 : Rat) ≤ 6 * θ - (R - v) by grind)
  have p2 := Rat.mul_nonneg (show (0 : Rat) ≤ (c : Rat) by grind) (show (0 : Rat) ≤ 6 * θ - (v - R) by grind)
  obtain ⟨k1, k2⟩ := scale (c := (c : Rat)) (a := rv (colAt c f o1 o2 t).1) (b := R) (e := 1 / 1000000000) (by grind) c2 ⟨by grind, by grind⟩ (by decide +kernel)
  rw [← hcv] at w1 w2
  constructor <;> grind

structure EvenF (k : Col) : Prop where
  h1 : isEq (min3F k.1 k.2.1 k.2.2) (max3F k.1 k.2.1 k.2.2) = false
  h2 : isZero (sub (max3F k.1 k.2.1 k.2.2) (min3F k.1 k.2.1 k.2.2)) = false
  h3 : isZero (add (max3F k.1 k.2.1 k.2.2) (min3F k.1 k.2.1 k.2.2)) = false
  h4 : isZero (sub (sub f2 (max3F k.1 k.2.1 k.2.2)) (min3F k.1 k.2.1 k.2.2)) = false
  h5 : nearF (lightF k.1 k.2.1 k.2.2) fHalf = true
  h6 : nearF (satF k.1 k.2.1 k.2.2) f1 = true
  h7 : isEq (satF k.1 k.2.1 k.2.2) 0 = false
structure OddF (k : Col) (h : UInt64) : Prop where
  h1 : isEq (min3F k.1 k.2.1 k.2.2) (max3F k.1 k.2.1 k.2.2) = false
  h2 : isZero (sub (max3F k.1 k.2.1 k.2.2) (min3F k.1 k.2.1 k.2.2)) = false
  h3 : isZero (max3F k.1 k.2.1 k.2.2) = false
  h5 : nearF (satV k.1 k.2.1 k.2.2) f1 = true
  h6 : nearF (max3F k.1 k.2.1 k.2.2) f1 = true
  h7 : isEq (satV k.1 k.2.1 k.2.2) 0 = false
  h8 : isNaN (mul h f6) = false
  h9 : isInf (mul h f6) = false
  h10 : (iF h).natAbs < 2 ^ 1024 - 2 ^ 970

theorem eq_no {x y : UInt64} (hx : Fi x) (hy : Fi y) (h : rv x ≠ rv y) : isEq x y = false := by
  cases e : isEq x y with
  | false => rfl
  | true => exact absurd ((eq_f hx hy).mp e) h

theorem small_big {i : Int} (h0 : 0 ≤ i) (h1 : i ≤ 50) : i.natAbs < 2 ^ 1024 - 2 ^ 970 := by
  have h : i.natAbs ≤ 50 := by omega
  exact Nat.lt_of_le_of_lt h (by decide +kernel)

theorem even_f {c f o1 o2 : Int} (P : Par c f o1 o2) {t : Nat} (ht : t ≤ 66) : EvenF (colAt c f o1 o2 t) := by
  obtain ⟨x, R, G, B, n, _⟩ := P.inv t ht
  obtain ⟨e2, e3⟩ := epsT_le ht
  have e4 : epsT t ≤ 1 / 100000000 := by grind
  obtain ⟨l0, ⟨l1, l2⟩, s0, ⟨s1, s2⟩, _, _, _, _, z1, z2⟩ := ls_f n e2 e4
  obtain ⟨_, _, _, y1, y2, y3⟩ := sv_f n e2 e4
  obtain ⟨M0, M1⟩ := mx_f n e2 e4
  obtain ⟨N0, N1⟩ := mn_f n e2 e4
  obtain ⟨t0, t1⟩ := f1_f
  obtain ⟨u0, u1⟩ := fHalf_f
  obtain ⟨w0, w1⟩ := f0_f
  have d0 := dl0
  exact ⟨eq_no N0 M0 y3, nz y2, nz z1, nz z2, near_true l0 u0 (by rw [u1]; constructor <;> grind), near_true s0 t0 (by rw [t1]; constructor <;> grind), eq_no s0 w0 (by rw [w1]; grind)⟩

theorem hueo_f {c f o1 o2 : Int} (P : Par c f o1 o2) {t : Nat} (ht : t ≤ 66) : Fi (add (hueAt c f o1 o2 t) (ratF o2 c)) ∧ -(2 * dl) ≤ rv (add (hueAt c f o1 o2 t) (ratF o2 c)) ∧ rv (add (hueAt c f o1 o2 t) (ratF o2 c)) ≤ 8 := by
  obtain ⟨x, R, G, B, n, _⟩ := P.inv t ht
  obtain ⟨e2, e3⟩ := epsT_le ht
  obtain ⟨a0, a1, a2, j, a3⟩ := hue_f n e2 (by grind)
  have eh : hueF (colAt c f o1 o2 t).1 (colAt c f o1 o2 t).2.1 (colAt c f o1 o2 t).2.2 = hueAt c f o1 o2 t := rfl
  rw [eh] at a0 a1 a2 a3
  obtain ⟨r0, r1, r2, r3, r4, _⟩ := ro_f (o := o2) P.hc1 P.hc2 (by have := P.ho3; have := P.hc1; omega) P.ho4
  have r5 := r4 P.ho3
  have d0 := dl0
  have d1 := dl1
  obtain ⟨s0, ⟨s1, s2⟩, _⟩ := add_f a0 r0 (by grind) (by grind)
  exact ⟨s0, by grind, by grind⟩

theorem odd_f {c f o1 o2 : Int} (P : Par c f o1 o2) {t : Nat} (ht : t ≤ 66) : OddF (colAt c f o1 o2 t) (add (hueAt c f o1 o2 t) (ratF o2 c)) := by
  obtain ⟨x, R, G, B, n, _⟩ := P.inv t ht
  obtain ⟨e2, e3⟩ := epsT_le ht
  have e4 : epsT t ≤ 1 / 100000000 := by grind
  obtain ⟨s0, ⟨s1, s2⟩, _, y1, y2, y3⟩ := sv_f n e2 e4
  obtain ⟨M0, M1, M2⟩ := mx_f n e2 e4
  obtain ⟨N0, N1⟩ := mn_f n e2 e4
  obtain ⟨t0, t1⟩ := f1_f
  obtain ⟨w0, w1⟩ := f0_f
  have d0 := dl0
  obtain ⟨h0, h1, h2⟩ := hueo_f P ht
  obtain ⟨m0, i0, i1, _⟩ := fr_f h0 h1 h2
  exact ⟨eq_no N0 M0 y3, nz y2, nz y1, near_true s0 t0 (by rw [t1]; constructor <;> grind), near_true M0 t0 (by rw [t1]; constructor <;> grind), eq_no s0 w0 (by rw [w1]; grind), notNaN m0, notInf m0, small_big i0 i1⟩

theorem col_fi {c f o1 o2 : Int} (P : Par c f o1 o2) {t : Nat} (ht : t ≤ 66) : Fi (colAt c f o1 o2 t).1 := by
  obtain ⟨x, R, G, B, n, _⟩ := P.inv t ht
  exact n.fr

theorem start_h {c f o1 o2 : Int} (P : Par c f o1 o2) : isEq f1 0 = false ∧ isNaN (mul (ratF f c) f6) = false ∧ isInf (mul (ratF f c) f6) = false ∧ (iF (ratF f c)).natAbs < 2 ^ 1024 - 2 ^ 970 := by
  have hfc : (f : Rat) - (c : Rat) ≤ 0 := by
    have : (f : Rat) ≤ (c : Rat) := Rat.intCast_le_intCast.mpr (by have := P.hf2; omega)
    grind
  obtain ⟨r0, r1, r2, r3, r4, r5⟩ := ro_f (o := f) P.hc1 P.hc2 (by have := P.hf1; have := P.hc1; omega) (by have := P.hf2; have := P.hc1; omega)
  have r6 := r4 P.hf1
  have d0 := dl0
  obtain ⟨m0, i0, i1, _⟩ := fr_f r0 (by grind) (by grind)
  exact ⟨by decide +kernel, notNaN m0, notInf m0, small_big i0 i1⟩
end Mine.Fl
end
section
open PySem PySem.W PySem.Spec PySem.Calls PyProof.Rows
namespace Mine
/-- the claim's own caller lies on the stack -/
noncomputable def CalI (Γ : PySem.Ctx) : Prop := (((Γ.code, (default : Pos)) :: Γ.below).map (·.1)).any Code.isCaller = true
noncomputable def CalB (Γ : PySem.Ctx) : Prop := (Γ.below.map (·.1)).any Code.isCaller = true

noncomputable def wpC {α : Type} (M : Model) (A : Around) (t : Sem α) (Q : α → Shared → Prop) (E : Value → Shared → Prop) (s : Shared) : Prop :=
  ∀ Γ p, Γ.In A → CalI Γ → Sem.wp M Γ t (fun a _ s' => Q a s') (fun e _ s' => E e s') p s
noncomputable def codeC (M : Model) (A : Around) (c : Code) (R : Result → Shared → Prop) (s : Shared) : Prop :=
  ∀ Γ p, Γ.code = c → Γ.Below A → CalB Γ → wpCode M Γ R p s

/-- a goal out of sight: the motives of the cases between stay small -/
noncomputable def HidG (P : Prop) : Prop := ¬ P
theorem HidG.ex {P : Prop} (h : HidG P) (p : P) : False := h p
theorem hidG {P : Prop} (h : HidG P → False) : P := Classical.byContradiction h
section
variable {M : Model}
theorem wp_append {Γ : PySem.Ctx} {env : Env} {l1 l2 : List Stmt} {Q : Flow → Pos → Shared → Prop} {E : Value → Pos → Shared → Prop} {p : Pos} {s : Shared}
    (h : Sem.wp M Γ (execs l1 env) (fun f p' s' => match f with | .next => Sem.wp M Γ (execs l2 env) Q E p' s' | f => Q f p' s') E p s) : Sem.wp M Γ (execs (l1 ++ l2) env) Q E p s := by
  induction l1 generalizing p s with
  | nil => exact h
  | cons st l1 ih =>
    rw [execs_cons, Sem.wp_bind'] at h
    show Sem.wp M Γ (execs (st :: (l1 ++ l2)) env) Q E p s
    rw [execs_cons, Sem.wp_bind']
    refine Sem.wp_mono M Γ _ (fun f p' s' h' => ?_) (fun _ _ _ h' => h') p s h
    cases f with
    | next => exact ih h'
    | _ => exact h'
end
section
variable {α β : Type} {M : Model} {A : Around} {E : Value → Shared → Prop} {s : Shared}
theorem wpC_of {t : Sem α} {Q : α → Shared → Prop} (h : wpAny M A t Q E s) : wpC M A t Q E s := fun Γ p hΓ _ => h Γ p hΓ
theorem codeC_of {c : Code} {R : Result → Shared → Prop} (h : codeAny M A c R s) : codeC M A c R s := fun Γ p hc hΓ _ => h Γ p hc hΓ
theorem wpC_mono {t : Sem α} {Q Q' : α → Shared → Prop} {E' : Value → Shared → Prop} (h : wpC M A t Q E s) (hQ : ∀ a s, Q a s → Q' a s) (hE : ∀ e s, E e s → E' e s) : wpC M A t Q' E' s :=
  fun Γ p hΓ hc => Sem.wp_mono M Γ t (fun a _ s => hQ a s) (fun e _ s => hE e s) p s (h Γ p hΓ hc)
theorem wpC_bind {m : Sem α} {f : α → Sem β} {Q : β → Shared → Prop} (h : wpC M A m (fun a s' => wpC M A (f a) Q E s') E s) : wpC M A (m >>= f) Q E s := fun Γ p hΓ hc => by
  rw [Sem.wp_bind']
  exact Sem.wp_mono M Γ m (fun a p' s' h' => h' Γ p' hΓ hc) (fun _ _ _ h' => h') p s (h Γ p hΓ hc)
theorem wpC_pure {a : α} {Q : α → Shared → Prop} (h : Q a s) : wpC M A (pure a) Q E s := wpC_of (wpAny_pure h)
theorem wpC_tryCatch {m : Sem α} {k : Value → Sem α} {Q : α → Shared → Prop} (h : wpC M A m Q (fun e s' => wpC M A (k e) Q E s') s) : wpC M A (tryCatch m k) Q E s := fun Γ p hΓ hc => by
  rw [Sem.wp_tryCatch']
  exact Sem.wp_mono M Γ m (fun _ _ _ h' => h') (fun e p' s' h' => h' Γ p' hΓ hc) p s (h Γ p hΓ hc)
theorem wpC_onRaise {m : Sem α} {k : Value → Sem Unit} {Q : α → Shared → Prop} (h : wpC M A m Q (fun e s' => wpC M A (k e) (fun _ s'' => E e s'') E s') s) : wpC M A (m.onRaise k) Q E s := fun Γ p hΓ hc => by
  rw [Sem.wp_onRaise]
  exact Sem.wp_mono M Γ m (fun _ _ _ h' => h') (fun e p' s' h' => h' Γ p' hΓ hc) p s (h Γ p hΓ hc)
theorem wpC_holding {vs : List Value} {m : Sem α} {Q : α → Shared → Prop} (h : wpC M A m Q E s) : wpC M A (holding vs m) Q E s :=
  fun Γ p hΓ hc => by rw [Sem.wp_holding]; exact h Γ p hΓ hc
theorem codeC_mono {c : Code} {R R' : Result → Shared → Prop} (h : codeC M A c R s) (hR : ∀ r s, R r s → R' r s) : codeC M A c R' s :=
  fun Γ p hc hΓ hb => wpCode_mono hR (h Γ p hc hΓ hb)
theorem codeC_of_tree {c : Code} {R : Result → Shared → Prop}
    (h : wpC M (A.under c) (M.den c) (fun fin s' => match fin with | .done f => R (.ok f) s' | .again c' => c'.quiet = true ∧ codeC M A c' R s') (fun e s' => R (.error e) s') s) : codeC M A c R s := fun Γ p hc hΓ hb => by
  rw [wpCode_iff_wp, hc]
  refine Sem.wp_mono M Γ _ (fun fin p' s' h' => ?_) (fun _ _ _ h' => h') p s (h Γ p (hc ▸ hΓ.in) ?_)
  · cases fin with
    | done f => exact h'
    | again c' => exact ⟨h'.1, h'.2 (Γ.goto c') p' rfl (hΓ.goto c') hb⟩
  · unfold CalI CalB at *
    simp only [List.map_cons, List.any_cons, hb, Bool.or_true]
theorem calB_enter {Γ : PySem.Ctx} {c : Code} {hd : Option Value} {p : Pos} (h : CalI Γ) : CalB (Γ.enter c hd p) := by
  unfold CalI at h
  unfold CalB
  show (((Γ.code, p) :: Γ.below).map (·.1)).any Code.isCaller = true
  simpa using h
theorem wpC_run {c : Code} {h : Option Value} {Q : Flow → Shared → Prop}
    (hc : codeC M (A.mark h) c (fun r s' => match r with | .ok f => Q f s' | .error e => E e s') s) (hnb : h ≠ some byPass := by intro x; cases x) : wpC M A (run c h) Q E s :=
  fun Γ p hΓ hb => by rw [Sem.wp_run]; exact hc _ p rfl (hΓ.enter c h p hnb) (calB_enter hb)
theorem wpC_runValue {c : Code} {Q : Value → Shared → Prop}
    (hc : codeC M A c (fun r s' => match r with | .ok (.ret v) => Q v s' | .ok _ => False | .error e => E e s') s) : wpC M A (runValue c) Q E s :=
  fun Γ p hΓ hb => by rw [Sem.wp_runValue]; exact hc _ p rfl (hΓ.enter c none p (by intro x; cases x)) (calB_enter hb)
theorem wpC_call {f : Value} {pos : List Value} {kw : List (Str × Value)} {Q : Value → Shared → Prop}
    (hc : codeC M A (.call f ⟨pos, kw⟩) (fun r s' => match r with | .ok (.ret v) => Q v s' | .ok _ => False | .error e => E e s') s) : wpC M A (call f pos kw) Q E s := wpC_runValue hc
end
section
variable {prog : Program} {w : World} {A : Around} {s : Shared} {R : Result → Shared → Prop}
theorem codeC_func {body : List Stmt} {env : Env}
    (h : wpC (model prog w) (A.deeper env) (execs body env) (fun f s' => R (.ok (.ret (match f with | .ret v => v | _ => .none))) s')
      (fun e s' => wpC (model prog w) (A.deeper env) (leaving env e) (fun _ s'' => R (.error e) s'') (fun e' s'' => R (.error e') s'') s') s) :
    codeC (model prog w) A (.func body env) R s := by
  refine codeC_of_tree ?_
  show wpC _ (A.deeper env) (do point; match ← (execs body env).onRaise (leaving env) with | .ret v => ret v | _ => ret .none) _ _ s
  refine wpC_bind (wpC_of (wpAny_point (wpC_bind (wpC_onRaise (wpC_mono h (fun f s' h' => ?_) fun _ _ h' => h')))))
  cases f <;> exact wpC_pure h'
theorem codeC_call_function {a : Addr} {args : Args} {o : Obj} {fd : FuncData} {body : List Stmt} (hroom : A.depth < recursionLimit)
    (ho : s.heap.get? a = some o)
    (hd' : o.data = .func fd) (hco : fd.scope.isCoroutine = false) (hgen : fd.scope.isGenerator = false) (hbody : fd.body = .stmts body) (hcd : s.heap.CodeRec fd.code fd.qualname)
    (h : wpAny (model prog w) A.in1 (bindArgs fd args) (fun binds s₁ =>
      wpAny (model prog w) A.in1 (newFunctionEnv fd.scope fd.globals fd.closure binds (fd.qualname ++ ".<locals>.") (some a) fd.code none fd.builtins)
        (fun env s₂ => s₂.heap.NoLimit ∧ codeC (model prog w) A (.func body env) R s₂) (fun e s' => R (.error e) s') s₁) (fun e s' => R (.error e) s') s) :
    codeC (model prog w) A (.call (.ref a) args) R s := by
  refine codeC_of_tree ?_
  show wpC _ A.in1 (callAny (.ref a) args) _ _ s
  refine wpC_of ?_
  simp only [callAny]
  refine wpAny_bind (wpAny_load ho ?_)
  obtain ⟨c, oc, vs, tq, hc, hoc, hdc, hq⟩ := hcd
  simp only [hd', callFunction, hco, hgen, hbody, hc]
  rw [hc] at h
  refine wpAny_bind (m := field (.ref c) 1) (wpAny_field hoc hdc hq (wpAny_bind (wpAny_pure ?_)))
  exact wpAny_bind (wpAny_mono h (fun binds s₁ h₁ => wpAny_bind (wpAny_mono h₁ (fun env s₂ h₂ => wpAny_bind (wpAny_enterFrame h₂.1 hroom
    (wpAny_pure (And.intro rfl h₂.2)))) fun _ _ h' => h')) fun _ _ h' => h')
end

section
variable {prog : Program} {w : World} {A : Around} {s : Shared} {R : Result → Shared → Prop}
theorem codeC_call_def {a : Addr} {o : Obj} {fd : FuncData} {body : List Stmt} {args : Args} {binds : List (Str × Value)}
    (hroom : A.depth < recursionLimit) (ho : s.heap.get? a = some o) (hdata : o.data = .func fd) (hlim : s.heap.NoLimit) (hcd : s.heap.CodeRec fd.code fd.qualname)
    (hbody : fd.body = .stmts body) (hbind : BindsTo s fd args binds)
    (hcell : ∀ x ∈ fd.scope.names, x.2 ≠ .cell) (hloc : ∀ x ∈ binds, fd.scope.names.lookup x.1 = some .local)
    (h : ∀ h₀, h₀.Ns s.heap.objs.size (fun x => binds.reverse.lookup x) → (∀ b o, s.heap.get? b = some o → h₀.get? b = some o) →
      wpC (model prog w) (A.deeper (callEnv fd s.heap.objs.size a)) (execs body (callEnv fd s.heap.objs.size a)) (fun f s' => R (.ok (.ret (match f with | .ret v => v | _ => .none))) s')
        (fun e s' => wpC (model prog w) (A.deeper (callEnv fd s.heap.objs.size a)) (leaving (callEnv fd s.heap.objs.size a) e) (fun _ s'' => R (.error e) s'') (fun e' s'' => R (.error e') s'') s')
        { s with heap := h₀, toks := s.toks + binds.length })
    (hco : fd.scope.isCoroutine = false := by rfl) (hgen : fd.scope.isGenerator = false := by rfl) (hk : fd.scope.kind = .function := by rfl) :
    codeC (model prog w) A (.call (.ref a) args) R s := by
  refine codeC_call_function hroom ho hdata hco hgen hbody hcd (hbind _ _ _ _ ?_)
  refine wpAny_newFunctionEnv hcell hloc (fun h₀ hns₀ hsb₀ => ⟨hlim.fresh _ hsb₀, codeC_func (h h₀ hns₀ fun b o e => ?_)⟩) hk
  exact hsb₀.extBut b o (Nat.ne_of_lt (Heap.lt_size e)) (Heap.get?_push_of_some _ e)
end
end Mine
end
section
open PySem PySem.W PySem.Spec PySem.Calls PyProof.Rows
namespace Mine
theorem cal_root : CalI (⟨.builtin "claim.caller" {}, none, none, [], none⟩ : PySem.Ctx) := by
  unfold CalI
  rfl
theorem wp_of_wpC_done {M : Model} {A : Around} {Γ : PySem.Ctx} {t : Sem PySem.Fin} {R : Result → Shared → Prop} {s : Shared} (hin : Γ.In A) (hc : CalI Γ)
    (h : wpC M A t (fun fin s' => ∃ f, fin = .done f ∧ R (.ok f) s') (fun e s' => R (.error e) s') s) (p : Pos) :
    Sem.wp M Γ t (Sem.finPost M Γ R) (fun e _ s' => R (.error e) s') p s :=
  Sem.wp_mono M Γ t (fun fin p' s' h' => by obtain ⟨f, rfl, hf⟩ := h'; exact hf) (fun _ _ _ h' => h') p s (h Γ p hin hc)

theorem ends_bothC {prog : Program} {w : World} {t : Sem PySem.Fin} {s : Shared} {R : Result → Shared → Prop} (hreg : s.asleep)
    (h : wpC (model prog w) callerA t (fun fin s' => ∃ f, fin = .done f ∧ (R (.ok f) s' ∧ leftWithCleanup s'.gens = false)) (fun e s' => R (.error e) s' ∧ leftWithCleanup s'.gens = false) s) :
    ∃ n r s' s'', runN (denote table) prog w n s ⟨t, .builtin "claim.caller" {}, default, []⟩ = .halted (outcomeOf r) s' ∧
      schedN (denote table) prog w n (.single s ⟨t, .builtin "claim.caller" {}, default, []⟩) = .halted (outcomeOf r) s' ∧ s'.forget = s''.forget ∧ R r s'' := by
  obtain ⟨n, r, s₁, s₂, hs, hn, hfo, hR⟩ := wp_halts_full (M := model prog w) (R := R) hreg (wp_of_wpC_done (R := fun r s' => R r s' ∧ leftWithCleanup s'.gens = false) caller_in cal_root h default)
  exact ⟨n, r, s₂, s₁, hn, hs, hfo, hR⟩

theorem callFromC {c : ClaimW} {tree : List Value → Sem PySem.Fin} {w : World} {s : Shared} {free : Addr → Prop} {gens : Prop} {kept : Heap → Prop} (hz : s.asleep) (hgens : s.gens = #[])
    (hspec : ∀ args, c.pre args = true → WData.layableAll args = true →
      ∀ ord : List DictEntry → List DictEntry, (∀ l, (ord l).Perm l) →
      ∃ vs s₁, layAllW c.records (classAt s.heap) w.params ord args s = some (vs, s₁) ∧
        wpC (model c.prog w) callerA (tree vs) (fun fin s' => ∃ f, fin = .done f ∧ (c.Ends s args vs s₁ (.ok f) s' ∧ s'.os = s.os ∧ AllBare s'.gens ∧ kept s'.heap))
          (fun e s' => c.Ends s args vs s₁ (.error e) s' ∧ s'.os = s.os ∧ AllBare s'.gens ∧ kept s'.heap) s₁) :
    c.CallFrom (fun vs => ⟨tree vs, .builtin "claim.caller" {}, default, []⟩) w free gens kept s := by
  intro args hpre hlay ord hord
  refine hidG fun hn => ?_
  obtain ⟨vs, s₁, hlaid, hcode⟩ := hspec args hpre hlay ord hord
  have hal := layAllW_rest _ _ _ hlaid
  obtain ⟨k, r, s', s'', hrun, hsched, hfo, hcase, hos, hkp⟩ := ends_bothC (prog := c.prog) (w := w) (t := tree vs) (s := s₁)
    (R := fun r s' => c.Ends s args vs s₁ r s' ∧ s'.os = s.os ∧ kept s'.heap)
    (Shared.asleep_of_life hal.2.2.2 hz)
    (wpC_mono hcode (by
      rintro fin s' ⟨f, e, h1, h2, h3, h4⟩
      exact ⟨f, e, ⟨h1, h2, h4⟩, leftWithCleanup_false_of_bare h3⟩) (by
      rintro e s' ⟨h1, h2, h3, h4⟩
      exact ⟨⟨h1, h2, h4⟩, leftWithCleanup_false_of_bare h3⟩))
  obtain ⟨eh, _, _, eo, _⟩ := Shared.forget_eq hfo
  have hcase := hcase.congr eh
  have hkp : kept s'.heap := by first | exact eh ▸ hkp | (rw [eh] at hkp; exact hkp) | (rw [← eh] at hkp; exact hkp)
  rw [← eo] at hos
  have hlife : s'.heap.life = s.heap.life := (runN_life _ _ _ hrun).trans hal.2.2.2
  refine hn.ex ⟨vs, s₁, hlaid, k, _, s', hsched, ?_, (fun _ i x hx => by rw [hgens] at hx; simp at hx), hkp, by rw [hlife], Shared.rest_eq hos⟩
  clear hn
  refine hidG fun hn => ?_
  rcases hcase with ⟨v, rfl, d1, d2, d3, d4, d5⟩ | ⟨e, ob, cls, rfl, d1, d2, d3, d4, d5⟩
  · refine hn.ex ?_
    exact .inl ⟨v, rfl, d1, d2, d3, fun b o y _ => d4 b o y, d5⟩
  · refine hn.ex ?_
    exact .inr ⟨e, ob, cls, rfl, d1, d2, d3, d4, fun b o y _ => d5 b o y⟩

theorem open_anyC {r : RowW} {run : Value → List Value → Sem Value} {tree : List Value → Sem PySem.Fin} {q : Program} {loose defs kps : List Str} {writes : Bool} {Xt : Shared → Bool} {XP : (Str → Option Value) → Heap → Prop} {α : Type} {Yf : Shared → α} {Ya : World → α} {YP : World → Heap → Prop} {N : Nat}
    (left : LeftO r.prog q loose Xt Yf Ya N) (hY : ∀ w s, Yf s = Ya w → YP w s.heap) (hYk : ∀ w h h', YP w h → (∀ b o, h.get? b = some o → h'.get? b = some o) → YP w h') (hX : ∀ s, Xt s = true → XP (s.heap.nsMap mainGlobals) s.heap) (hXk : ∀ mg h h', XP mg h → (∀ b o, h.get? b = some o → h'.get? b = some o) → XP mg h')
    (hRf : ∀ s, Xt s = true → RecFacts r.records s.heap) (hwr : (!writes || r.records.isEmpty) = true) (ok : (chainsOk q && opensWell r.prog && (frees r && r.within.isEmpty)) = true) (hb : r.prog.bare) (hw : r.promised)
    (ht : ∀ vs (w : World) (s : Shared) mg f (Q : PySem.Fin → Shared → Prop) (E : Value → Shared → Prop), s.heap.Ns mainGlobals mg → mg r.name = some f → wpC (model r.prog w) callerA (run f vs) (fun v s' => Q (.done (.ret v)) s') E s → wpC (model r.prog w) callerA (tree vs) Q E s)
    (pin : ∀ w s, s.heap.isNs mainGlobals = true → Ground q loose [] XP w s (s.heap.nsMap mainGlobals) (s.heap.nsMap builtinsNs) s.heap → ∀ n ∈ defs, isTheDefsW r.prog s.heap n)
    (call : ∀ (w : World) (s₀ s₁ : Shared) (mg mb : Str → Option Value), Ground q loose r.records XP w s₀ mg mb s₁.heap → YP w s₁.heap → ∀ (args : List WData) (vs : List Value) (as : List Addr),
      r.claim.pre args = true → WData.layableAll args = true → Laid r.records w s₀ s₁ args vs as → sysModules < s₀.heap.objs.size → ∃ f, mg r.name = some f ∧
        wpC (model r.prog w) callerA (run f vs) (fun v s' => GoodWG r.claim (classAt s₀.heap) (ExcName.means s₀.heap) args s₁ (.ok (.ret v)) s')
          (fun e s' => GoodWG r.claim (classAt s₀.heap) (ExcName.means s₀.heap) args s₁ (.error e) s') s₁) : r.claim.HoldsOpenBy (fun vs => ⟨tree vs, .builtin "claim.caller" {}, default, []⟩) defs kps writes := by
  obtain ⟨ok, k5⟩ := Bool.and_eq_true_iff.mp ok
  obtain ⟨hch, o1⟩ := Bool.and_eq_true_iff.mp ok
  obtain ⟨k5, k6⟩ := Bool.and_eq_true_iff.mp k5
  obtain ⟨hsame, hu, ha, hap, hm⟩ := frees_parts k5
  refine ⟨⟨hb, o1, by show r.makers.map _ = []; rw [hm]; rfl⟩, hw.witness, fun w => ⟨(left.behind hX hch w).1, fun s' hs' => ?_⟩⟩
  obtain ⟨s₀, hf, hg0, s, hT, hz, hgens, hg, G00, y⟩ := (left.behind (XP := fun mg h => XP mg h ∧ RecFacts r.records h) (fun s hs => ⟨hX s hs, hRf s hs⟩) hch w).2 s' hs'
  have G0 : Ground q loose [] XP w s (s.heap.nsMap mainGlobals) (s.heap.nsMap builtinsNs) s.heap := ⟨G00.T, G00.B, G00.D, G00.TE, G00.TD, G00.W, G00.X.1, G00.cls, G00.has, G00.apart, G00.once, G00.K⟩
  have RF := G00.X.2
  have hT' := hT
  refine ⟨s₀, hf, hg0, s, hT, pin w s hg G0, RF.1, RF.2.1, ?_⟩
  have hgens : s.gens = #[] := Array.eq_empty_of_size_eq_zero (beq_iff_eq.mp hgens)
  have G : Ground q loose r.records XP w s _ _ s.heap := RF.ground G0
  refine callFromC (c := r.claim) hz hgens fun args hpre hlay ord hord => ?_
  refine hidG fun hn => ?_
  obtain ⟨⟨vs, s₁⟩, hlaid⟩ := Option.isSome_iff_exists.mp (layAllW_isSome (P := w.params) (ord := ord) G.has args r.args s (pre_splitW hpre).1)
  have keeps := layAllW_keeps _ _ _ hlaid
  have hal := layAllW_rest _ _ _ hlaid
  obtain ⟨as, hrd, hin, hold⟩ := reads_layAllW hord _ _ _ hlaid hlay s₁.heap (fun _ _ e => e)
  have L : Laid r.records w s s₁ args vs as := ⟨⟨ord, hord, hlaid⟩, hrd, hin, hold, keeps, hal.1.trans hgens, hal.2.2.1⟩
  have G₁ := G.keeps hXk keeps
  obtain ⟨f, hf, h⟩ := call w s s₁ _ _ G₁ (hYk _ _ _ (hY w s y) keeps) args vs as hpre hlay L G.low
  have hi := ident_freeW hu ha hap
  have hwi : r.claim.within = [] := List.isEmpty_iff.mp k6
  refine hn.ex ?_
  exact ⟨vs, s₁, hlaid, ht vs w s₁ _ f _ _ G₁.T.g hf (wpC_mono h (fun v s' g => ⟨_, rfl, have z := g.laid (c := r.claim) hsame hwi hi L; ⟨z.1, z.2.1, z.2.2, fun q => ⟨namesKept_of hT' hg kps keeps g.2.1.old, noTable hwr q⟩⟩⟩) fun e s' g => have z := g.laid (c := r.claim) hsame hwi hi L; ⟨z.1, z.2.1, z.2.2, fun q => ⟨namesKept_of hT' hg kps keeps g.2.1.old, noTable hwr q⟩⟩)⟩

noncomputable abbrev WalkC (q : Program) (loose : List Str) (XP : (Str → Option Value) → Heap → Prop) (YP : World → Heap → Prop) (r : RowW) (d : DefRec) (kwd : List (Str × PySem.Expr)) (run : Value → List Value → Sem Value) : Prop :=
  ∀ (w : World) (s₀ s₁ : Shared) (mg mb : Str → Option Value), Ground q loose r.records XP w s₀ mg mb s₁.heap → YP w s₁.heap → ∀ (a : Addr) (o : Obj) (pm cd doc dV kV : Value), s₁.heap.get? a = some o →
    o.data = .func { docDef d.name d.params d.body d.scope pm cd doc with defaults := dV, kwdefaults := kV } → s₁.heap.CodeRec cd d.name → Dflts mg s₁.heap d.params kwd dV kV → mg d.name = some (.ref a) → s₁.gens = #[] →
    ∀ (args : List WData) (vals : List Value) (as : List Addr), r.claim.pre args = true → WData.layableAll args = true → ReadsAllW r.records (classAt s₀.heap) s₁.heap vals args as → WellAll w.params s₁.heap vals args → (∀ a ∈ as, (a == sysModules) = false) →
      wpC (model r.prog w) callerA (run (.ref a) vals) (fun v s' => GoodWG r.claim (classAt s₀.heap) (ExcName.means s₀.heap) args s₁ (.ok (.ret v)) s')
        (fun e s' => GoodWG r.claim (classAt s₀.heap) (ExcName.means s₀.heap) args s₁ (.error e) s') s₁

theorem size_boot (P : Params) : (boot_heap P).isNs mainGlobals = true ∧ (boot_heap P).objs.size = 11 ∧ (boot_heap P).nsMap mainGlobals "__annotations__" = some (.ref 6) := ⟨by kernel_rfl, by kernel_rfl, by kernel_rfl⟩
theorem left_of_run {p q : Program} {loose : List Str} {Xt : Shared → Bool} {α : Type} {Yf : Shared → α} {Ya : World → α} {N : Nat} (ho : opening p = plainProg p.main.scope.names) (hN : Nat.ble 600 N = true) (hf : ∀ s, fenceModules? p s = some s)
    (run : ∀ w : World, (fun os => (Fast.tw14082659384304107361 Fast.tw14364793385576792824 p w 11 (some (.ref 6)) N ⟨boot_heap w.params, #[], boot_drawn, boot_toks, os⟩
        (topStub p)).map
        (fun s => (staticsOk (Fast.tw5923862056798008813 p.main.body) (boot_heap w.params) s.heap && namesBound p s.heap && gensDone s && laidKept (boot_heap w.params) s.heap, Fast.tw4187177175401517315 q loose (Fast.tw5923862056798008813 p.main.body) Xt true s, Yf s))) = fun _ => some (true, openGood q loose, Ya w)) : LeftO p q loose Xt Yf Ya N := fun w => by
  obtain ⟨⟨h, gs, d, k, os⟩, e, e'⟩ := Option.map_eq_some_iff.mp (boot_open ho hN hf w)
  obtain ⟨rfl, rfl, rfl, rfl⟩ : h = boot_heap w.params ∧ gs = #[] ∧ d = boot_drawn ∧ k = boot_toks := by simpa using e'
  have run := congrFun (run w) os
  rw [← Fast.te14082659384304107361, ← Fast.te14364793385576792824, ← Fast.te5923862056798008813, ← Fast.te4187177175401517315] at run
  obtain ⟨s, hs, e'⟩ := Option.map_eq_some_iff.mp run
  have e1 : (staticsOk (importedModules p.main.body) (boot_heap w.params) s.heap && namesBound p s.heap && gensDone s && laidKept (boot_heap w.params) s.heap) = true := congrArg Prod.fst e'
  have e2 := congrArg Prod.snd e'
  unfold openEnds
  rw [e]
  show (topFrom treeTable p w N _).map _ = _
  obtain ⟨z1, z2, z3⟩ := size_boot w.params
  unfold topFrom
  dsimp only
  rw [z1, z2, z3, hs]
  show (match staticsOk (importedModules p.main.body) (boot_heap w.params) s.heap && namesBound p s.heap && gensDone s && laidKept (boot_heap w.params) s.heap with | true => some s | false => none).map _ = _
  rw [e1]
  exact congrArg some e2
end Mine
namespace Mine.PySem.W
theorem holds_open {r : OpenRow} {q : Program} {loose : List Str} {Xt : Shared → Bool} {XP : (Str → Option Value) → Heap → Prop} {α : Type} {Yf : Shared → α} {Ya : World → α} {YP : World → Heap → Prop} {d : DefRec} {kwd : List (Str × PySem.Expr)} {N : Nat}
    (left : ∀ w : World, (fun os => (Fast.tw14082659384304107361 Fast.tw14364793385576792824 r.prog w 11 (some (.ref 6)) N ⟨boot_heap w.params, #[], boot_drawn, boot_toks, os⟩
        (topStub r.prog)).map
        (fun s => (staticsOk (Fast.tw5923862056798008813 r.prog.main.body) (boot_heap w.params) s.heap && namesBound r.prog s.heap && gensDone s && laidKept (boot_heap w.params) s.heap, Fast.tw4187177175401517315 q loose (Fast.tw5923862056798008813 r.prog.main.body) Xt true s, Yf s))) = fun _ => some (true, openGood q loose, Ya w)) (hY : ∀ w s, Yf s = Ya w → YP w s.heap) (hYk : ∀ w h h', YP w h → (∀ b o, h.get? b = some o → h'.get? b = some o) → YP w h')
    (hX : ∀ s, Xt s = true → XP (s.heap.nsMap mainGlobals) s.heap) (hXk : ∀ mg h h', XP mg h → (∀ b o, h.get? b = some o → h'.get? b = some o) → XP mg h')
    (hdef : defOf q r.name = some (d, kwd)) (hp : r.prog.theDef r.name = some (d.params, d.body, d.scope)) (hk : kwWritten? d.params.kwonlyargs d.params.kw_defaults = some kwd) (hRf : ∀ s, Xt s = true → RecFacts r.records s.heap) (hwr : (!r.writes || r.records.isEmpty) = true)
    (k1 : r.wellSaid = true) (ok : (chainsOk q && opensWell r.prog && (frees r.toRowW && r.within.isEmpty)) = true) (hb : r.prog.bare) (hw : r.toRowW.promised)
    (call : WalkC q loose XP YP r.toRowW d kwd fun f vs => PySem.call f vs)
    (ho : opening r.prog = plainProg r.prog.main.scope.names := by kernel_rfl) (hN : Nat.ble 600 N = true := by decide) (hfm : ∀ s, fenceModules? r.prog s = some s := by intro s; kernel_rfl) : r.Holds := by
  have left := left_of_run ho hN hfm left
  refine ⟨k1, hw, open_anyC (r := r.toRowW) (run := fun f vs => PySem.call f vs) (tree := fun vs => do match ← nsGet mainNs r.name with
      | some f => do ret (← PySem.call f vs)
      | none => unsupported "claim.caller:no-such-global") left hY hYk hX hXk hRf hwr ok hb hw
    (fun vs w s mg f Q E hg hf h => wpC_bind (wpC_of (wpAny_nsGet hg (by rw [hf]; exact wpC_bind (wpC_mono h (fun _ _ x => wpC_pure x) fun _ _ x => x)))))
    (fun w s hg G n hn => ?_) fun w s₀ s₁ mg mb G Y args vs as hpre hlay L low => ?_⟩
  · obtain rfl : n = r.name := by split at hn <;> simp_all
    exact pinned_of_view hg G hdef hp hk
  · obtain ⟨a, o, pm, cd, doc, dV, kV, h1, h2, h3, h4, h5⟩ := G.fn hdef
    exact ⟨.ref a, h1, call w s₀ s₁ mg mb G Y a o pm cd doc dV kV h2 h3 h4 h5 (defOf_name hdef ▸ h1) L.gens args vs as hpre hlay L.reads L.well (L.low low)⟩
end Mine.PySem.W
end
section
open PySem PySem.W PyProof.Rows
namespace Mine
open_top hd for PySem.Challenge.rw_pg0104_01
end Mine
end
local macro_rules | `(tactic| walk_at $s:str) => `(tactic| k_extra $s)
local macro_rules | `(tactic| k_steps) => `(tactic| k_extra "k_steps")
local macro_rules | `(tactic| k_ne) => `(tactic| k_extra "k_ne")
local macro_rules | `(tactic| ktr_room) => `(tactic| k_extra "ktr_room")
local macro_rules | `(tactic| ktr_units) => `(tactic| k_extra "ktr_units")
section
open PySem PySem.W PySem.Spec PySem.Calls PyProof.Rows
namespace Mine

noncomputable abbrev looseN : List Str := [Str.ofString "ONE_THIRD", Str.ofString "ONE_SIXTH", Str.ofString "TWO_THIRD"]
noncomputable abbrev looseV : List (Str × WData) := [(Str.ofString "ONE_THIRD", WData.float 4599676419421066581),
        (Str.ofString "ONE_SIXTH", WData.float 4595172819793696085),
        (Str.ofString "TWO_THIRD", WData.float 4604180019048437077)]

theorem rmK {d m k n : Nat} (h : d + m < n) (hk : k ≤ m) : d + k < n := Nat.lt_of_le_of_lt (Nat.add_le_add_left hk d) h
theorem storeL9 {M : Model} {A : Around} {E : Value → Shared → Prop} {s : Shared} {h₀ : Heap} {L a : Addr} {m : Str → Option Value} {news : List (Addr × Obj)} {cn : Str} {cs : Scope} {ccd v : Value} {cl : List (Str × Addr)} {x : Str} {Q : Unit → Shared → Prop}
    (F : Fr h₀ L s.heap m) (N : News h₀ L s.heap news)
    (h : ∀ h', let m' : Str → Option Value := fun y => if y = x then some v else m y; Fr h₀ L h' m' → News h₀ L h' news → Q () { s with heap := h', toks := s.toks + 1 })
    (hk : cs.kind = .function) (hx : (envX cn cs L a ccd cl).kindOf x = some .local) : wpAny M A (storeName (envX cn cs L a ccd cl) x v) Q E s :=
  storeX_L F N h hk hx
end Mine
end
section
open PySem PySem.W PySem.Spec PySem.Calls PyProof.Rows PySem.Flt
namespace Mine

theorem args_max3 (a b c : Value) : argsOk "max" ⟨[a, b, c], []⟩ := by unfold argsOk; kernel_rfl
theorem args_min3 (a b c : Value) : argsOk "min" ⟨[a, b, c], []⟩ := by unfold argsOk; kernel_rfl


theorem pick_max {x y z : UInt64} {t u v : Tok} {q : Value} (hP : #[Value.float x t, Value.float y u, Value.float z v][argBest (fun i j => ltV (#[Value.float x t, Value.float y u, Value.float z v].getD j .none) (#[Value.float x t, Value.float y u, Value.float z v].getD i .none)) 2]? = some q) : ∃ r, q = .float (max3F x y z) r := by
  by_cases c1 : Float64.cmp x y = some .lt
  · by_cases c2 : Float64.cmp y z = some .lt
    · simp [argBest, ltV, c1, c2] at hP; exact ⟨_, by rw [← hP]; simp [max3F, max2F, c1, c2]; rfl⟩
    · simp [argBest, ltV, c1, c2] at hP; exact ⟨_, by rw [← hP]; simp [max3F, max2F, c1, c2]; rfl⟩
  · by_cases c2 : Float64.cmp x z = some .lt
    · simp [argBest, ltV, c1, c2] at hP; exact ⟨_, by rw [← hP]; simp [max3F, max2F, c1, c2]; rfl⟩
    · simp [argBest, ltV, c1, c2] at hP; exact ⟨_, by rw [← hP]; simp [max3F, max2F, c1, c2]; rfl⟩
theorem pick_min {x y z : UInt64} {t u v : Tok} {q : Value} (hP : #[Value.float x t, Value.float y u, Value.float z v][argBest (fun i j => ltV (#[Value.float x t, Value.float y u, Value.float z v].getD i .none) (#[Value.float x t, Value.float y u, Value.float z v].getD j .none)) 2]? = some q) : ∃ r, q = .float (min3F x y z) r := by
  by_cases c1 : Float64.cmp y x = some .lt
  · by_cases c2 : Float64.cmp z y = some .lt
    · simp [argBest, ltV, c1, c2] at hP; exact ⟨_, by rw [← hP]; simp [min3F, min2F, c1, c2]; rfl⟩
    · simp [argBest, ltV, c1, c2] at hP; exact ⟨_, by rw [← hP]; simp [min3F, min2F, c1, c2]; rfl⟩
  · by_cases c2 : Float64.cmp z x = some .lt
    · simp [argBest, ltV, c1, c2] at hP; exact ⟨_, by rw [← hP]; simp [min3F, min2F, c1, c2]; rfl⟩
    · simp [argBest, ltV, c1, c2] at hP; exact ⟨_, by rw [← hP]; simp [min3F, min2F, c1, c2]; rfl⟩
section
variable {prog : Program} {w : World} {A : Around} {E : Value → Shared → Prop} {s : Shared} {Q : Value → Shared → Prop} {x y z : UInt64} {t u v : Tok} {h₀ : Heap} {L : Addr} {m : Str → Option Value} {news : List (Addr × Obj)}

theorem size3 {h : Heap} {a b c : Value} {i1 : Addr} (hc : i1 ∈ [(h.push { cls := .type "tuple", data := .seq #[a, b, c] }).objs.size, h.objs.size]) (o : Obj) :
    i1 < ((h.push { cls := .type "tuple", data := .seq #[a, b, c] }).push o).objs.size := by
  rw [Heap.size_push, Heap.size_push]
  rw [Heap.size_push] at hc
  rcases List.mem_cons.mp hc with rfl | hc
  · exact Nat.lt_succ_self _
  · rcases List.mem_cons.mp hc with rfl | hc
    · exact Nat.lt_succ_of_lt (Nat.lt_succ_self _)
    · cases hc

theorem hold3 {h h' : Heap} {a b c : Value} {o1 : Obj} (hk : ∀ b1 o, b1 ∉ [(h.push { cls := .type "tuple", data := .seq #[a, b, c] }).objs.size] → ((h.push { cls := .type "tuple", data := .seq #[a, b, c] }).push o1).get? b1 = some o → h'.get? b1 = some o) :
    ∀ c o, h.get? c = some o → h'.get? c = some o := fun c o e => by
  refine hk c o (fun hm => ?_) (Heap.get?_push_of_some _ (Heap.get?_push_of_some _ e))
  rcases List.mem_cons.mp hm with e1 | hm
  · have := Heap.lt_size e; rw [e1, Heap.size_push] at this; exact Nat.lt_irrefl _ (Nat.lt_of_succ_lt this)
  · cases hm

theorem max3_ff (hh : A.handled = none) (F : Fr h₀ L s.heap m) (N : News h₀ L s.heap news)
    (h : ∀ h' tk r, Fr h₀ L h' m → News h₀ L h' news → Q (.float (max3F x y z) r) { s with heap := h', toks := tk }) :
    wpAny (model prog w) A (call (.builtin "max") [.float x t, .float y u, .float z v]) Q E s := by
  have hT : (s.heap.push { cls := .type "tuple", data := .seq #[.float x t, .float y u, .float z v] }).IsTuple s.heap.objs.size #[.float x t, .float y u, .float z v] := ⟨_, Heap.get?_push_size _ rfl, rfl, 0, rfl⟩
  have hname : (toString "max" ++ toString ".loop" : String) = "max.loop" := by decide
  refine call_function_tree PySem.F.kind_max PySem.F.plain_max PySem.F.entry_max (args_max3 _ _ _) ?_
  show wpAny _ A.in1 (Builtin.Builtins.bindParams "max" ["key", "default"] 0 ⟨[], []⟩ >>= _) _ _ s
  refine wpAny_bind (wpAny_of_eq (show Builtin.Builtins.bindParams "max" ["key", "default"] 0 ⟨[], []⟩ = pure [none, none] from rfl) ?_)
  show wpAny _ A.in1 (newTuple [.float x t, .float y u, .float z v] >>= _) _ _ s
  refine wpAny_bind (wpAny_newObj_type ?_)
  refine wpAny_bind (wpAny_pyIter_tuple hT ?_)
  refine wpAny_bind (wpAny_newObj_type ?_)
  rw [hname]
  have W := Walks.tuple (prog := prog) (w := w) (A := A.in1) hh (s.heap.push { cls := .type "tuple", data := .seq #[.float x t, .float y u, .float z v] }).objs.size s.heap.objs.size (by rw [Heap.size_push]; exact Nat.ne_of_lt (Nat.lt_succ_self _)) #[.float x t, .float y u, .float z v]
  refine wpAny_pure ⟨plainId_quiet PySem.F.plain_max_loop _, codeAny_max_loop_first W _ (cmpOf_gt #[.float x t, .float y u, .float z v] (by intro q hq; simp at hq; rcases hq with rfl | rfl | rfl <;> exact .float _ _)) _ (fun hm => Nat.lt_irrefl _ (size3 hm _)) (by simp) (W.frame _ _ _ ⟨⟨_, Heap.get?_push_size _ rfl, rfl, rfl⟩, hT.push _⟩ fun b _ o e => Heap.get?_push_of_some _ e) (Heap.get?_push_size _ rfl) fun q h' tk hP hk => ?_⟩
  have hold := hold3 (h' := h') fun b o hb e => hk b o hb (Nat.ne_of_lt (Heap.lt_size e)) (Heap.get?_push_of_some _ e)
  have hv : ∃ r, q = .float (max3F x y z) r := by
    exact pick_max hP
  obtain ⟨r, rfl⟩ := hv
  exact h h' tk r (F.grownK hold) (N.grown hold)

theorem min3_ff (hh : A.handled = none) (F : Fr h₀ L s.heap m) (N : News h₀ L s.heap news)
    (h : ∀ h' tk r, Fr h₀ L h' m → News h₀ L h' news → Q (.float (min3F x y z) r) { s with heap := h', toks := tk }) :
    wpAny (model prog w) A (call (.builtin "min") [.float x t, .float y u, .float z v]) Q E s := by
  have hT : (s.heap.push { cls := .type "tuple", data := .seq #[.float x t, .float y u, .float z v] }).IsTuple s.heap.objs.size #[.float x t, .float y u, .float z v] := ⟨_, Heap.get?_push_size _ rfl, rfl, 0, rfl⟩
  have hname : (toString "min" ++ toString ".loop" : String) = "min.loop" := by decide
  refine call_function_tree PySem.F.kind_min PySem.F.plain_min PySem.F.entry_min (args_min3 _ _ _) ?_
  show wpAny _ A.in1 (Builtin.Builtins.bindParams "min" ["key", "default"] 0 ⟨[], []⟩ >>= _) _ _ s
  refine wpAny_bind (wpAny_of_eq (show Builtin.Builtins.bindParams "min" ["key", "default"] 0 ⟨[], []⟩ = pure [none, none] from rfl) ?_)
  show wpAny _ A.in1 (newTuple [.float x t, .float y u, .float z v] >>= _) _ _ s
  refine wpAny_bind (wpAny_newObj_type ?_)
  refine wpAny_bind (wpAny_pyIter_tuple hT ?_)
  refine wpAny_bind (wpAny_newObj_type ?_)
  rw [hname]
  have W := Walks.tuple (prog := prog) (w := w) (A := A.in1) hh (s.heap.push { cls := .type "tuple", data := .seq #[.float x t, .float y u, .float z v] }).objs.size s.heap.objs.size (by rw [Heap.size_push]; exact Nat.ne_of_lt (Nat.lt_succ_self _)) #[.float x t, .float y u, .float z v]
  refine wpAny_pure ⟨plainId_quiet PySem.F.plain_min_loop _, codeAny_min_loop_first W _ (cmpOf_lt #[.float x t, .float y u, .float z v] (by intro q hq; simp at hq; rcases hq with rfl | rfl | rfl <;> exact .float _ _)) _ (fun hm => Nat.lt_irrefl _ (size3 hm _)) (by simp) (W.frame _ _ _ ⟨⟨_, Heap.get?_push_size _ rfl, rfl, rfl⟩, hT.push _⟩ fun b _ o e => Heap.get?_push_of_some _ e) (Heap.get?_push_size _ rfl) fun q h' tk hP hk => ?_⟩
  have hold := hold3 (h' := h') fun b o hb e => hk b o hb (Nat.ne_of_lt (Heap.lt_size e)) (Heap.get?_push_of_some _ e)
  have hv : ∃ r, q = .float (min3F x y z) r := by
    exact pick_min hP
  obtain ⟨r, rfl⟩ := hv
  exact h h' tk r (F.grownK hold) (N.grown hold)
end
end Mine
end
section
open PySem PySem.W PySem.Spec PySem.Calls PyProof.Rows
namespace Mine
theorem rows_Con1 : True := by
  k_with_none
  w_top off
  k_with "storeName" => ((k_here; k_dflt (refine' storeL9 ?F9z ?N9z ?_ ?a9z ?b9z; (case F9z => k_asm); (case N9z => k_asm); (case a9z => rfl); (case b9z => rfl); k_whole; intro h' m' F' N'; (try k_sweep))))
  k_with "ktr_room" => (first | exact rmK (k := 0) (by assumption) (by decide) | exact rmK (k := 1) (by assumption) (by decide) | exact rmK (k := 2) (by assumption) (by decide) | exact rmK (k := 3) (by assumption) (by decide) | exact rmK (k := 4) (by assumption) (by decide) | exact rmK (k := 5) (by assumption) (by decide) | exact rmK (k := 6) (by assumption) (by decide) | exact rmK (k := 7) (by assumption) (by decide) | exact rmK (k := 8) (by assumption) (by decide) | exact rmK (k := 9) (by assumption) (by decide))
  k_with "ktr_units" => (first | exact rmK (k := 0) (by assumption) (by decide) | exact rmK (k := 1) (by assumption) (by decide) | exact rmK (k := 2) (by assumption) (by decide) | exact rmK (k := 3) (by assumption) (by decide) | exact rmK (k := 4) (by assumption) (by decide) | exact rmK (k := 5) (by assumption) (by decide) | exact rmK (k := 6) (by assumption) (by decide) | exact rmK (k := 7) (by assumption) (by decide) | exact rmK (k := 8) (by assumption) (by decide) | exact rmK (k := 9) (by assumption) (by decide) | exact rmK (k := 10) (by assumption) (by decide) | exact rmK (k := 12) (by assumption) (by decide) | exact rmK (k := 13) (by assumption) (by decide) | exact rmK (k := 14) (by assumption) (by decide) | exact rmK (k := 15) (by assumption) (by decide) | exact rmK (k := 16) (by assumption) (by decide) | exact rmK (k := 17) (by assumption) (by decide) | exact rmK (k := 18) (by assumption) (by decide) | exact rmK (k := 20) (by assumption) (by decide) | exact rmK (k := 21) (by assumption) (by decide) | exact rmK (k := 22) (by assumption) (by decide) | exact rmK (k := 23) (by assumption) (by decide) | exact rmK (k := 24) (by assumption) (by decide) | exact rmK (k := 25) (by assumption) (by decide) | exact rmK (k := 26) (by assumption) (by decide) | exact rmK (k := 30) (by assumption) (by decide) | exact rmK (k := 32) (by assumption) (by decide) | exact rmK (k := 33) (by assumption) (by decide) | exact rmK (k := 34) (by assumption) (by decide) | exact rmK (k := 36) (by assumption) (by decide) | exact rmK (k := 64) (by assumption) (by decide) | exact rmK (k := 65) (by assumption) (by decide) | exact rmK (k := 66) (by assumption) (by decide) | exact rmK (k := 68) (by assumption) (by decide))
  trivial

section
variable {w : World} {mean : ExcName → Option Value} {mg mb : Str → Option Value} {news : List (Addr × Obj)} {dp un : Nat} {gd : Option (List Code)} {cn : Str} {cs : Scope} {a : Addr} {ccd : Value} {cl : List (Str × Addr)} {outer : List Env} {A₀ : Around} {base h₀ hV : Heap} {L : Addr} {m : Str → Option Value} {s : Shared} {Q E : Value → Shared → Prop}
  (V : LooseAre looseV mg hV) (hB : Below A₀ base outer h₀) (F : Fr h₀ L s.heap m) (KX : (hd.heap_39 w.params).In h₀) (N : News h₀ L s.heap news) (T : Top hd.view_39 (looseW hd.view_39 looseN) mean mg mb h₀) (hk : cs.kind = .function)
  (hdp : dp + 3 < recursionLimit) (hun : un + 12 < cLine)
include V hB F KX N T hk hdp hun

theorem v_call {x y z : UInt64} {t u v : Tok}
    (hret : ∀ (r : Tok) (h' : Heap) (tk' : Nat), Fr h₀ L h' m → News h₀ L h' news → Q (.float (vF x y z) r) { s with heap := h', toks := tk' }) :
    wpAny (model Challenge.rw_pg0104_01.row.prog w) (ktrTop dp un gd cn cs L a ccd cl outer) (call (.ref 79) [.float x t, .float y u, .float z v]) Q E s := by
  have hr : ∀ (b : UInt64) (r : Tok) (h' : Heap) (tk' : Nat), b = vF x y z → Fr h₀ L h' m → News h₀ L h' news → Q (.float b r) { s with heap := h', toks := tk' } := by
    intro b r h' tk' e; subst e; exact hret r h' tk'
  clear hret
  revert KX; k_fill; intro KX
  refine wpAny_call ?_
  k_dflt cell_enter
  k_steps
  all_goals (refine hr _ _ _ _ ?_ (by assumption) (by assumption); simp only [vF, isLt, modF]; simp only [*]; simp)
end
end Mine
end
section
open PySem PySem.W PySem.Spec PySem.Calls PyProof.Rows
namespace Mine
theorem rows_Con2 : True := by
  k_with_none
  w_top off
  k_with "storeName" => ((k_here; k_dflt (refine' storeL9 ?F9z ?N9z ?_ ?a9z ?b9z; (case F9z => k_asm); (case N9z => k_asm); (case a9z => rfl); (case b9z => rfl); k_whole; intro h' m' F' N'; (try k_sweep))))
  k_with "ktr_room" => (first | exact rmK (k := 0) (by assumption) (by decide) | exact rmK (k := 1) (by assumption) (by decide) | exact rmK (k := 2) (by assumption) (by decide) | exact rmK (k := 3) (by assumption) (by decide) | exact rmK (k := 4) (by assumption) (by decide) | exact rmK (k := 5) (by assumption) (by decide) | exact rmK (k := 6) (by assumption) (by decide) | exact rmK (k := 7) (by assumption) (by decide) | exact rmK (k := 8) (by assumption) (by decide) | exact rmK (k := 9) (by assumption) (by decide))
  k_with "ktr_units" => (first | exact rmK (k := 0) (by assumption) (by decide) | exact rmK (k := 1) (by assumption) (by decide) | exact rmK (k := 2) (by assumption) (by decide) | exact rmK (k := 3) (by assumption) (by decide) | exact rmK (k := 4) (by assumption) (by decide) | exact rmK (k := 5) (by assumption) (by decide) | exact rmK (k := 6) (by assumption) (by decide) | exact rmK (k := 7) (by assumption) (by decide) | exact rmK (k := 8) (by assumption) (by decide) | exact rmK (k := 9) (by assumption) (by decide) | exact rmK (k := 10) (by assumption) (by decide) | exact rmK (k := 12) (by assumption) (by decide) | exact rmK (k := 13) (by assumption) (by decide) | exact rmK (k := 14) (by assumption) (by decide) | exact rmK (k := 15) (by assumption) (by decide) | exact rmK (k := 16) (by assumption) (by decide) | exact rmK (k := 17) (by assumption) (by decide) | exact rmK (k := 18) (by assumption) (by decide) | exact rmK (k := 20) (by assumption) (by decide) | exact rmK (k := 21) (by assumption) (by decide) | exact rmK (k := 22) (by assumption) (by decide) | exact rmK (k := 23) (by assumption) (by decide) | exact rmK (k := 24) (by assumption) (by decide) | exact rmK (k := 25) (by assumption) (by decide) | exact rmK (k := 26) (by assumption) (by decide) | exact rmK (k := 30) (by assumption) (by decide) | exact rmK (k := 32) (by assumption) (by decide) | exact rmK (k := 33) (by assumption) (by decide) | exact rmK (k := 34) (by assumption) (by decide) | exact rmK (k := 36) (by assumption) (by decide) | exact rmK (k := 64) (by assumption) (by decide) | exact rmK (k := 65) (by assumption) (by decide) | exact rmK (k := 66) (by assumption) (by decide) | exact rmK (k := 68) (by assumption) (by decide))
  trivial
theorem rows_Con2_0 : True := by
  k_with "ite" => (first | (with_reducible refine' ite_2T ?h9z ?_; (case h9z => with_reducible assumption)) | (with_reducible refine' ite_2F ?h9z ?_; (case h9z => with_reducible assumption)))
  k_with "call builtin:max" => (((with_reducible show wpAny _ _ (call (Value.builtin _) [Value.float _ _, Value.float _ _, Value.float _ _]) _ _ _); (rename News _ _ _ _ => N'); (with_unfolding_all apply max3_ff); (case hh => with_unfolding_all rfl); (case N => exact N'); (case F => assumption); clear N'; intro h' _ _ F' N'))
  k_with "call builtin:min" => (((with_reducible show wpAny _ _ (call (Value.builtin _) [Value.float _ _, Value.float _ _, Value.float _ _]) _ _ _); (rename News _ _ _ _ => N'); (with_unfolding_all apply min3_ff); (case hh => with_unfolding_all rfl); (case N => exact N'); (case F => assumption); clear N'; intro h' _ _ F' N'))
  k_with "call ref" => ((k_here; (with_reducible show wpAny _ _ (call (Value.ref 79) [Value.float _ _, Value.float _ _, Value.float _ _]) _ _ _); (k_dflt (refine' v_call ?k09z ?k19z ?k29z ?k39z ?k49z ?k59z ?k69z ?k79z ?k89z ?_)); (case k09z => assumption); (case k19z => k_asm); (case k29z => k_asm); (case k39z => k_asm); (case k49z => k_asm); (case k59z => k_asm); (case k69z => first | exact rfl | assumption); (case k79z => ktr_room); (case k89z => ktr_units); intro t9 h9 tk9 F9 N9; (try dsimp only); (try k_fold)))
  trivial
noncomputable abbrev tup3 (x : UInt64) (t : Tok) (y : UInt64) (u : Tok) (z : UInt64) (v : Tok) : Obj := { cls := .type "tuple", data := .seq #[.float x t, .float y u, .float z v] }

theorem six {i : Int} (h0 : i.fmod 6 ≠ 0) (h1 : i.fmod 6 ≠ 1) (h2 : i.fmod 6 ≠ 2) (h3 : i.fmod 6 ≠ 3) (h4 : i.fmod 6 ≠ 4) (h5 : i.fmod 6 ≠ 5) : False := by
  have q1 := Int.fmod_nonneg_of_pos i (show (0:Int) < 6 by decide)
  have q2 := Int.fmod_lt_of_pos i (show (0:Int) < 6 by decide)
  (first | lia | omega)

noncomputable def hueC (r g b : UInt64) : UInt64 :=
  let mx := max3F r g b
  let rg := Float64.sub mx (min3F r g b)
  let rc := Float64.div (Float64.sub mx r) rg
  let gc := Float64.div (Float64.sub mx g) rg
  let bc := Float64.div (Float64.sub mx b) rg
  if isEq r mx = true then Float64.sub bc gc else if isEq g mx = true then Float64.sub (Float64.add f2 rc) bc else Float64.sub (Float64.add f4 gc) rc
theorem hueC_eq (r g b : UInt64) : hueF r g b = modF (Float64.div (hueC r g b) f6) := rfl
noncomputable def Stop (P : Prop) : Prop := P
theorem splitS {M : Model} {A : Around} {E : Value → Shared → Prop} {s : Shared} {env : Env} {l : List Stmt} {Q : Flow → Shared → Prop} (n : Nat)
    (h : wpAny M A (execs (l.take n) env) (fun f s' => match f with | .next => Stop (wpAny M A (execs (l.drop n) env) Q E s') | f => Q f s') E s) : wpAny M A (execs l env) Q E s := by
  rw [← List.take_append_drop n l]
  intro Γ p hΓ
  refine wp_append (Sem.wp_mono M Γ _ (fun f p' s' h' => ?_) (fun _ _ _ h' => h') p s (h Γ p hΓ))
  cases f with
  | next =>
    have h2 : wpAny M A (execs (l.drop n) env) Q E s' := h'
    exact h2 Γ p' hΓ
  | _ => exact h'
noncomputable def JP (h₀ : Heap) (L : Addr) (m : Str → Option Value) (x : Str) (v : UInt64) (news : List (Addr × Obj)) (s : Shared) (f : Flow) (s' : Shared) : Prop :=
  f = .next ∧ ∃ t h' tk', s' = { s with heap := h', toks := tk' } ∧ Fr h₀ L h' (fun y => if y = x then some (.float v t) else m y) ∧ News h₀ L h' news
theorem JP.intro {h₀ : Heap} {L : Addr} {m : Str → Option Value} {x : Str} {v v' : UInt64} {news : List (Addr × Obj)} {s : Shared} {t : Tok} {h' : Heap} {tk' : Nat} (e : v' = v) (F : Fr h₀ L h' (fun y => if y = x then some (.float v' t) else m y)) (N : News h₀ L h' news) :
    JP h₀ L m x v news s .next { s with heap := h', toks := tk' } := by
  subst e
  exact ⟨rfl, t, h', tk', rfl, F, N⟩
theorem joinS {M : Model} {A : Around} {E : Value → Shared → Prop} {s : Shared} {env : Env} {st : Stmt} {rest : List Stmt} {Q : Flow → Shared → Prop} {h₀ : Heap} {L : Addr} {m : Str → Option Value} {news : List (Addr × Obj)} (x : Str) (v : UInt64) (_F : Fr h₀ L s.heap m) (_N : News h₀ L s.heap news)
    (h1 : wpAny M A (exec st env) (JP h₀ L m x v news s) E s)
    (h2 : ∀ t h' tk', Fr h₀ L h' (fun y => if y = x then some (.float v t) else m y) → News h₀ L h' news → wpAny M A (execs rest env) Q E { s with heap := h', toks := tk' }) : Stop (wpAny M A (execs (st :: rest) env) Q E s) := by
  show wpAny M A (execs (st :: rest) env) Q E s
  refine wpAny_execs_cons (wpAny_mono h1 (fun f s' h => ?_) fun _ _ h => h)
  obtain ⟨rfl, t, h', tk', rfl, F, N⟩ := h
  exact h2 t h' tk' F N
theorem ite_2T {b : Bool} {P Q : Prop} (hb : b = true) (h : P) : if b = true then P else Q := by rw [if_pos hb]; exact h
theorem ite_2F {b : Bool} {P Q : Prop} (hb : b = false) (h : Q) : if b = true then P else Q := by rw [if_neg (by rw [hb]; decide)]; exact h
section
variable {w : World} {mean : ExcName → Option Value} {mg mb : Str → Option Value} {news : List (Addr × Obj)} {dp un : Nat} {gd : Option (List Code)} {cn : Str} {cs : Scope} {a : Addr} {ccd : Value} {cl : List (Str × Addr)} {outer : List Env} {A₀ : Around} {base h₀ hV : Heap} {L : Addr} {m : Str → Option Value} {s : Shared} {Q E : Value → Shared → Prop}
  (V : LooseAre looseV mg hV) (hB : Below A₀ base outer h₀) (F : Fr h₀ L s.heap m) (KX : (hd.heap_39 w.params).In h₀) (N : News h₀ L s.heap news) (T : Top hd.view_39 (looseW hd.view_39 looseN) mean mg mb h₀) (hk : cs.kind = .function)
  (hdp : dp + 5 < recursionLimit) (hun : un + 20 < cLine)
include V hB F KX N T hk hdp hun

theorem hls_call {x y z : UInt64} {t u v : Tok} (h1 : isEq (min3F x y z) (max3F x y z) = false) (h2 : Float64.isZero (Float64.sub (max3F x y z) (min3F x y z)) = false) (h3 : Float64.isZero (Float64.add (max3F x y z) (min3F x y z)) = false) (h4 : Float64.isZero (Float64.sub (Float64.sub f2 (max3F x y z)) (min3F x y z)) = false)
    (hret : ∀ (D : Addr) (t1 t2 t3 : Tok) (h' : Heap) (tk' : Nat), Fr h₀ L h' m → News h₀ L h' ((D, tup3 (hueF x y z) t1 (lightF x y z) t2 (satF x y z) t3) :: news) → (∀ p ∈ news, p.1 < D) → Q (.ref D) { s with heap := h', toks := tk' }) :
    wpAny (model Challenge.rw_pg0104_01.row.prog w) (ktrTop dp un gd cn cs L a ccd cl outer) (call (.ref 65) [.float x t, .float y u, .float z v]) Q E s := by
  have hr : ∀ (b1 b2 b3 : UInt64) (D : Addr) (t1 t2 t3 : Tok) (h' : Heap) (tk' : Nat), b1 = (hueF x y z) → b2 = (lightF x y z) → b3 = (satF x y z) → Fr h₀ L h' m → News h₀ L h' ((D, tup3 b1 t1 b2 t2 b3 t3) :: news) → (∀ p ∈ news, p.1 < D) → Q (.ref D) { s with heap := h', toks := tk' } := by
    intro b1 b2 b3 D t1 t2 t3 h' tk' e1 e2 e3; subst e1; subst e2; subst e3; exact hret D t1 t2 t3 h' tk'
  clear hret
  revert KX; k_fill; intro KX
  refine wpAny_call ?_
  k_dflt cell_enter
  have g1 : (Float64.cmp (min3F x y z) (max3F x y z) == some .eq) = false := h1
  refine splitS 6 ?_
  dsimp only [List.take, List.drop]
  (try k_fold)
  k_steps
  refine joinS (Str.ofString "s") (satF x y z) (by assumption) (by assumption) ?_ ?_
  · k_steps
    all_goals (refine JP.intro ?_ (by assumption) (by assumption); simp only [satF, lightF, isLe, *]; try simp)
  intro t8 h8 tk8 F8 N8
  refine splitS 3 ?_
  dsimp only [List.take, List.drop]
  (try k_fold)
  k_steps
  refine joinS (Str.ofString "h") (hueC x y z) (by assumption) (by assumption) ?_ ?_
  · k_steps
    all_goals (refine JP.intro ?_ (by assumption) (by assumption); simp only [hueC, isEq, *]; try simp)
  intro t7 h7 tk7 F7 N7
  k_steps
  refine hr _ _ _ _ _ _ _ _ _ (hueC_eq x y z).symm rfl rfl (by assumption) (by assumption) (by assumption)

theorem hsv_call {x y z : UInt64} {t u v : Tok} (h1 : isEq (min3F x y z) (max3F x y z) = false) (h2 : Float64.isZero (Float64.sub (max3F x y z) (min3F x y z)) = false) (h3 : Float64.isZero (max3F x y z) = false)
    (hret : ∀ (D : Addr) (t1 t2 t3 : Tok) (h' : Heap) (tk' : Nat), Fr h₀ L h' m → News h₀ L h' ((D, tup3 (hueF x y z) t1 (satV x y z) t2 (max3F x y z) t3) :: news) → (∀ p ∈ news, p.1 < D) → Q (.ref D) { s with heap := h', toks := tk' }) :
    wpAny (model Challenge.rw_pg0104_01.row.prog w) (ktrTop dp un gd cn cs L a ccd cl outer) (call (.ref 86) [.float x t, .float y u, .float z v]) Q E s := by
  have hr : ∀ (b1 b2 b3 : UInt64) (D : Addr) (t1 t2 t3 : Tok) (h' : Heap) (tk' : Nat), b1 = (hueF x y z) → b2 = (satV x y z) → b3 = (max3F x y z) → Fr h₀ L h' m → News h₀ L h' ((D, tup3 b1 t1 b2 t2 b3 t3) :: news) → (∀ p ∈ news, p.1 < D) → Q (.ref D) { s with heap := h', toks := tk' } := by
    intro b1 b2 b3 D t1 t2 t3 h' tk' e1 e2 e3; subst e1; subst e2; subst e3; exact hret D t1 t2 t3 h' tk'
  clear hret
  revert KX; k_fill; intro KX
  refine wpAny_call ?_
  k_dflt cell_enter
  have g1 : (Float64.cmp (min3F x y z) (max3F x y z) == some .eq) = false := h1
  refine splitS 9 ?_
  dsimp only [List.take, List.drop]
  (try k_fold)
  k_steps
  refine joinS (Str.ofString "h") (hueC x y z) (by assumption) (by assumption) ?_ ?_
  · k_steps
    all_goals (refine JP.intro ?_ (by assumption) (by assumption); simp only [hueC, isEq, *]; try simp)
  intro t7 h7 tk7 F7 N7
  k_steps
  refine hr _ _ _ _ _ _ _ _ _ (hueC_eq x y z).symm rfl rfl (by assumption) (by assumption) (by assumption)
end
end Mine
end
section
open PySem PySem.W PySem.Spec PySem.Calls PyProof.Rows
namespace Mine
theorem rows_Con3 : True := by
  k_with_none
  w_top off
  k_with "storeName" => ((k_here; k_dflt (refine' storeL9 ?F9z ?N9z ?_ ?a9z ?b9z; (case F9z => k_asm); (case N9z => k_asm); (case a9z => rfl); (case b9z => rfl); k_whole; intro h' m' F' N'; (try k_sweep))))
  k_with "ktr_room" => (first | exact rmK (k := 0) (by assumption) (by decide) | exact rmK (k := 1) (by assumption) (by decide) | exact rmK (k := 2) (by assumption) (by decide) | exact rmK (k := 3) (by assumption) (by decide) | exact rmK (k := 4) (by assumption) (by decide) | exact rmK (k := 5) (by assumption) (by decide) | exact rmK (k := 6) (by assumption) (by decide) | exact rmK (k := 7) (by assumption) (by decide) | exact rmK (k := 8) (by assumption) (by decide) | exact rmK (k := 9) (by assumption) (by decide))
  k_with "ktr_units" => (first | exact rmK (k := 0) (by assumption) (by decide) | exact rmK (k := 1) (by assumption) (by decide) | exact rmK (k := 2) (by assumption) (by decide) | exact rmK (k := 3) (by assumption) (by decide) | exact rmK (k := 4) (by assumption) (by decide) | exact rmK (k := 5) (by assumption) (by decide) | exact rmK (k := 6) (by assumption) (by decide) | exact rmK (k := 7) (by assumption) (by decide) | exact rmK (k := 8) (by assumption) (by decide) | exact rmK (k := 9) (by assumption) (by decide) | exact rmK (k := 10) (by assumption) (by decide) | exact rmK (k := 12) (by assumption) (by decide) | exact rmK (k := 13) (by assumption) (by decide) | exact rmK (k := 14) (by assumption) (by decide) | exact rmK (k := 15) (by assumption) (by decide) | exact rmK (k := 16) (by assumption) (by decide) | exact rmK (k := 17) (by assumption) (by decide) | exact rmK (k := 18) (by assumption) (by decide) | exact rmK (k := 20) (by assumption) (by decide) | exact rmK (k := 21) (by assumption) (by decide) | exact rmK (k := 22) (by assumption) (by decide) | exact rmK (k := 23) (by assumption) (by decide) | exact rmK (k := 24) (by assumption) (by decide) | exact rmK (k := 25) (by assumption) (by decide) | exact rmK (k := 26) (by assumption) (by decide) | exact rmK (k := 30) (by assumption) (by decide) | exact rmK (k := 32) (by assumption) (by decide) | exact rmK (k := 33) (by assumption) (by decide) | exact rmK (k := 34) (by assumption) (by decide) | exact rmK (k := 36) (by assumption) (by decide) | exact rmK (k := 64) (by assumption) (by decide) | exact rmK (k := 65) (by assumption) (by decide) | exact rmK (k := 66) (by assumption) (by decide) | exact rmK (k := 68) (by assumption) (by decide))
  trivial
theorem rows_Con3_0 : True := by
  k_with "call builtin:max" => (((with_reducible show wpAny _ _ (call (Value.builtin _) [Value.float _ _, Value.float _ _, Value.float _ _]) _ _ _); (rename News _ _ _ _ => N'); (with_unfolding_all apply max3_ff); (case hh => with_unfolding_all rfl); (case N => exact N'); (case F => assumption); clear N'; intro h' _ _ F' N'))
  k_with "call builtin:min" => (((with_reducible show wpAny _ _ (call (Value.builtin _) [Value.float _ _, Value.float _ _, Value.float _ _]) _ _ _); (rename News _ _ _ _ => N'); (with_unfolding_all apply min3_ff); (case hh => with_unfolding_all rfl); (case N => exact N'); (case F => assumption); clear N'; intro h' _ _ F' N'))
  k_with "call ref" => ((k_here; (with_reducible show wpAny _ _ (call (Value.ref 79) [Value.float _ _, Value.float _ _, Value.float _ _]) _ _ _); (k_dflt (refine' v_call ?k09z ?k19z ?k29z ?k39z ?k49z ?k59z ?k69z ?k79z ?k89z ?_)); (case k09z => assumption); (case k19z => k_asm); (case k29z => k_asm); (case k39z => k_asm); (case k49z => k_asm); (case k59z => k_asm); (case k69z => first | exact rfl | assumption); (case k79z => ktr_room); (case k89z => ktr_units); intro t9 h9 tk9 F9 N9; (try dsimp only); (try k_fold)))
  trivial
section
variable {w : World} {mean : ExcName → Option Value} {mg mb : Str → Option Value} {news : List (Addr × Obj)} {dp un : Nat} {gd : Option (List Code)} {cn : Str} {cs : Scope} {a : Addr} {ccd : Value} {cl : List (Str × Addr)} {outer : List Env} {A₀ : Around} {base h₀ hV : Heap} {L : Addr} {m : Str → Option Value} {s : Shared} {Q E : Value → Shared → Prop}
  (V : LooseAre looseV mg hV) (hB : Below A₀ base outer h₀) (F : Fr h₀ L s.heap m) (KX : (hd.heap_39 w.params).In h₀) (N : News h₀ L s.heap news) (T : Top hd.view_39 (looseW hd.view_39 looseN) mean mg mb h₀) (hk : cs.kind = .function)
  (hdp : dp + 5 < recursionLimit) (hun : un + 20 < cLine)
include V hB F KX N T hk hdp hun

theorem hls2rgb_call {x y z : UInt64} {t u v : Tok} (hs0 : isEq z 0 = false)
    (hret : ∀ (D : Addr) (t1 t2 t3 : Tok) (h' : Heap) (tk' : Nat), Fr h₀ L h' m → News h₀ L h' ((D, tup3 (vF (m1F y z) (m2F y z) (Float64.add x f13)) t1 (vF (m1F y z) (m2F y z) x) t2 (vF (m1F y z) (m2F y z) (Float64.sub x f13)) t3) :: news) → (∀ p ∈ news, p.1 < D) → Q (.ref D) { s with heap := h', toks := tk' }) :
    wpAny (model Challenge.rw_pg0104_01.row.prog w) (ktrTop dp un gd cn cs L a ccd cl outer) (call (.ref 72) [.float x t, .float y u, .float z v]) Q E s := by
  have hr : ∀ (b1 b2 b3 : UInt64) (D : Addr) (t1 t2 t3 : Tok) (h' : Heap) (tk' : Nat), b1 = (vF (m1F y z) (m2F y z) (Float64.add x f13)) → b2 = (vF (m1F y z) (m2F y z) x) → b3 = (vF (m1F y z) (m2F y z) (Float64.sub x f13)) → Fr h₀ L h' m → News h₀ L h' ((D, tup3 b1 t1 b2 t2 b3 t3) :: news) → (∀ p ∈ news, p.1 < D) → Q (.ref D) { s with heap := h', toks := tk' } := by
    intro b1 b2 b3 D t1 t2 t3 h' tk' e1 e2 e3; subst e1; subst e2; subst e3; exact hret D t1 t2 t3 h' tk'
  clear hret
  revert KX; k_fill; intro KX
  refine wpAny_call ?_
  k_dflt cell_enter
  k_steps
  all_goals first
    | (exfalso; fail)
    | (exfalso; simp_all [isEq]; done)
    | (refine hr _ _ _ _ _ _ _ _ _ ?_ ?_ ?_ (by assumption) (by assumption) (by assumption) <;> simp only [m1F, m2F, isLe] <;> (try simp only [*]) <;> (try simp); done)

theorem hsv2rgb_call {x y z : UInt64} {t u v : Tok} (hs0 : isEq y 0 = false) (h1 : Float64.isNaN (Float64.mul x f6) = false) (h2 : Float64.isInf (Float64.mul x f6) = false) (h3 : (iF x).natAbs < 2 ^ 1024 - 2 ^ 970)
    (hret : ∀ (D : Addr) (t1 t2 t3 : Tok) (h' : Heap) (tk' : Nat), Fr h₀ L h' m → News h₀ L h' ((D, tup3 (hsv2rgbF x y z).1 t1 (hsv2rgbF x y z).2.1 t2 (hsv2rgbF x y z).2.2 t3) :: news) → (∀ p ∈ news, p.1 < D) → Q (.ref D) { s with heap := h', toks := tk' }) :
    wpAny (model Challenge.rw_pg0104_01.row.prog w) (ktrTop dp un gd cn cs L a ccd cl outer) (call (.ref 93) [.float x t, .float y u, .float z v]) Q E s := by
  have hr : ∀ (b1 b2 b3 : UInt64) (D : Addr) (t1 t2 t3 : Tok) (h' : Heap) (tk' : Nat), b1 = (hsv2rgbF x y z).1 → b2 = (hsv2rgbF x y z).2.1 → b3 = (hsv2rgbF x y z).2.2 → Fr h₀ L h' m → News h₀ L h' ((D, tup3 b1 t1 b2 t2 b3 t3) :: news) → (∀ p ∈ news, p.1 < D) → Q (.ref D) { s with heap := h', toks := tk' } := by
    intro b1 b2 b3 D t1 t2 t3 h' tk' e1 e2 e3; subst e1; subst e2; subst e3; exact hret D t1 t2 t3 h' tk'
  clear hret
  revert KX; k_fill; intro KX
  refine wpAny_call ?_
  k_dflt cell_enter
  k_steps
  all_goals first
    | (exfalso; first | exact absurd (by assumption) (Nat.not_le.mpr h3) | exact six (by assumption) (by assumption) (by assumption) (by assumption) (by assumption) (by assumption))
    | (exfalso; simp_all [isEq]; done)
    | (refine hr _ _ _ _ _ _ _ _ _ ?_ ?_ ?_ (by assumption) (by assumption) (by assumption) <;> simp only [hsv2rgbF, pF, qF, tF, frF, iF] <;> (try simp only [*]) <;> (try simp); done)
end
end Mine
end
section
open PySem PySem.W PySem.Spec PySem.Calls PyProof.Rows
namespace Mine
theorem rows_Con4 : True := by
  k_with_none
  w_top off
  k_with "storeName" => ((k_here; k_dflt (refine' storeL9 ?F9z ?N9z ?_ ?a9z ?b9z; (case F9z => k_asm); (case N9z => k_asm); (case a9z => rfl); (case b9z => rfl); k_whole; intro h' m' F' N'; (try k_sweep))))
  k_with "ktr_room" => (first | exact rmK (k := 0) (by assumption) (by decide) | exact rmK (k := 1) (by assumption) (by decide) | exact rmK (k := 2) (by assumption) (by decide) | exact rmK (k := 3) (by assumption) (by decide) | exact rmK (k := 4) (by assumption) (by decide) | exact rmK (k := 5) (by assumption) (by decide) | exact rmK (k := 6) (by assumption) (by decide) | exact rmK (k := 7) (by assumption) (by decide) | exact rmK (k := 8) (by assumption) (by decide) | exact rmK (k := 9) (by assumption) (by decide))
  k_with "ktr_units" => (first | exact rmK (k := 0) (by assumption) (by decide) | exact rmK (k := 1) (by assumption) (by decide) | exact rmK (k := 2) (by assumption) (by decide) | exact rmK (k := 3) (by assumption) (by decide) | exact rmK (k := 4) (by assumption) (by decide) | exact rmK (k := 5) (by assumption) (by decide) | exact rmK (k := 6) (by assumption) (by decide) | exact rmK (k := 7) (by assumption) (by decide) | exact rmK (k := 8) (by assumption) (by decide) | exact rmK (k := 9) (by assumption) (by decide) | exact rmK (k := 10) (by assumption) (by decide) | exact rmK (k := 12) (by assumption) (by decide) | exact rmK (k := 13) (by assumption) (by decide) | exact rmK (k := 14) (by assumption) (by decide) | exact rmK (k := 15) (by assumption) (by decide) | exact rmK (k := 16) (by assumption) (by decide) | exact rmK (k := 17) (by assumption) (by decide) | exact rmK (k := 18) (by assumption) (by decide) | exact rmK (k := 20) (by assumption) (by decide) | exact rmK (k := 21) (by assumption) (by decide) | exact rmK (k := 22) (by assumption) (by decide) | exact rmK (k := 23) (by assumption) (by decide) | exact rmK (k := 24) (by assumption) (by decide) | exact rmK (k := 25) (by assumption) (by decide) | exact rmK (k := 26) (by assumption) (by decide) | exact rmK (k := 30) (by assumption) (by decide) | exact rmK (k := 32) (by assumption) (by decide) | exact rmK (k := 33) (by assumption) (by decide) | exact rmK (k := 34) (by assumption) (by decide) | exact rmK (k := 36) (by assumption) (by decide) | exact rmK (k := 64) (by assumption) (by decide) | exact rmK (k := 65) (by assumption) (by decide) | exact rmK (k := 66) (by assumption) (by decide) | exact rmK (k := 68) (by assumption) (by decide))
  trivial
theorem minI (a b : Int) : min a b = if b < a then b else a := by
  rw [Int.min_def]
  by_cases h : a ≤ b
  · rw [if_pos h, if_neg (Int.not_lt.mpr h)]
  · rw [if_neg h, if_pos (Int.not_le.mp h)]
theorem maxI (a b : Int) : max a b = if b > a then b else a := by
  rw [Int.max_def]
  by_cases h : a < b
  · rw [if_pos (Int.le_of_lt h), if_pos h]
  · rw [if_neg h]
    by_cases q : a ≤ b
    · rw [if_pos q]; exact Int.le_antisymm (Int.not_lt.mp h) q
    · rw [if_neg q]
section
variable {w : World} {mean : ExcName → Option Value} {mg mb : Str → Option Value} {news : List (Addr × Obj)} {dp un : Nat} {gd : Option (List Code)} {cn : Str} {cs : Scope} {a : Addr} {ccd : Value} {cl : List (Str × Addr)} {outer : List Env} {A₀ : Around} {base h₀ hV : Heap} {L : Addr} {m : Str → Option Value} {s : Shared} {Q E : Value → Shared → Prop}
  (V : LooseAre looseV mg hV) (hB : Below A₀ base outer h₀) (F : Fr h₀ L s.heap m) (KX : (hd.heap_39 w.params).In h₀) (N : News h₀ L s.heap news) (T : Top hd.view_39 (looseW hd.view_39 looseN) mean mg mb h₀) (hk : cs.kind = .function)
  (hdp : dp + 3 < recursionLimit) (hun : un + 12 < cLine)
include V hB F KX N T hk hdp hun

theorem near_ff {x y : UInt64} {t u : Tok}
    (hret : ∀ (h' : Heap) (tk' : Nat), Fr h₀ L h' m → News h₀ L h' news → Q (.bool (nearF x y)) { s with heap := h', toks := tk' }) :
    wpAny (model Challenge.rw_pg0104_01.row.prog w) (ktrTop dp un gd cn cs L a ccd cl outer) (call (.ref 114) [.float x t, .float y u]) Q E s := by
  revert KX; k_fill; intro KX
  refine wpAny_call ?_
  k_dflt cell_enter
  k_steps
  all_goals exact hret _ _ (by assumption) (by assumption)

theorem near_fi {x : UInt64} {n : Int} {t u : Tok} (hn : -100 ≤ n) (hn2 : n ≤ 100)
    (hret : ∀ (h' : Heap) (tk' : Nat), Fr h₀ L h' m → News h₀ L h' news → Q (.bool (nearF x (Float64.ofInt n))) { s with heap := h', toks := tk' }) :
    wpAny (model Challenge.rw_pg0104_01.row.prog w) (ktrTop dp un gd cn cs L a ccd cl outer) (call (.ref 114) [.float x t, .int n u]) Q E s := by
  revert KX; k_fill; intro KX
  refine wpAny_call ?_
  k_dflt cell_enter
  k_steps
  all_goals first | exact hret _ _ (by assumption) (by assumption)

theorem place_call {c f o1 o2 : Int} {i : Nat} {t1 t2 t3 t4 t5 : Tok} (hc1 : 2 ≤ c) (hc2 : c ≤ 10) (hf1 : 0 ≤ f) (hf2 : f < c) (ho1 : -(4 * c) ≤ o1) (ho2 : o1 ≤ 4 * c) (ho3 : 0 ≤ o2) (ho4 : o2 ≤ 4 * c) (hi : i ≤ 72)
    (hret : ∀ (r : Tok) (h' : Heap) (tk' : Nat), Fr h₀ L h' m → News h₀ L h' news → Q (.int ((f + ((i : Int).fdiv 2) * (o1 + o2) + (i : Int).fmod 2 * o1).fmod c) r) { s with heap := h', toks := tk' }) :
    wpAny (model Challenge.rw_pg0104_01.row.prog w) (ktrTop dp un gd cn cs L a ccd cl outer) (call (.ref 100) [.int c t1, .int f t2, .int o1 t3, .int o2 t4, .int i t5]) Q E s := by
  revert KX; k_fill; intro KX
  refine wpAny_call ?_
  k_dflt cell_enter
  k_steps
  all_goals first | exact hret _ _ _ (by assumption) (by assumption)

theorem red_call {c f : Int} {t1 t2 : Tok} (hc1 : 2 ≤ c) (hc2 : c ≤ 10) (hf1 : 0 ≤ f) (hf2 : f < c)
    (hret : ∀ (r : Tok) (h' : Heap) (tk' : Nat), Fr h₀ L h' m → News h₀ L h' news → Q (.int (c - min (max (6 * min f (c - f) - c) 0) c) r) { s with heap := h', toks := tk' }) :
    wpAny (model Challenge.rw_pg0104_01.row.prog w) (ktrTop dp un gd cn cs L a ccd cl outer) (call (.ref 107) [.int f t1, .int c t2]) Q E s := by
  have hr : ∀ (z : Int) (r : Tok) (h' : Heap) (tk' : Nat), z = c - min (max (6 * min f (c - f) - c) 0) c → Fr h₀ L h' m → News h₀ L h' news → Q (.int z r) { s with heap := h', toks := tk' } := by
    intro z r h' tk' e; subst e; exact hret r h' tk'
  clear hret
  revert KX; k_fill; intro KX
  refine wpAny_call ?_
  k_dflt cell_enter
  k_steps
  all_goals (refine hr _ _ _ _ ?_ (by assumption) (by assumption); clear hr; simp only [minI f, maxI, minI _ c, *, if_true, if_false])

theorem near_ffT {x y : UInt64} {t u : Tok} (h : nearF x y = true)
    (hret : ∀ (h' : Heap) (tk' : Nat), Fr h₀ L h' m → News h₀ L h' news → Q (.bool true) { s with heap := h', toks := tk' }) :
    wpAny (model Challenge.rw_pg0104_01.row.prog w) (ktrTop dp un gd cn cs L a ccd cl outer) (call (.ref 114) [.float x t, .float y u]) Q E s :=
  near_ff V hB F KX N T hk hdp hun (fun h' tk' F' N' => by rw [h]; exact hret h' tk' F' N')
theorem near_fiT {x : UInt64} {n : Int} {t u : Tok} (hn : -100 ≤ n) (hn2 : n ≤ 100) (h : nearF x (Float64.ofInt n) = true)
    (hret : ∀ (h' : Heap) (tk' : Nat), Fr h₀ L h' m → News h₀ L h' news → Q (.bool true) { s with heap := h', toks := tk' }) :
    wpAny (model Challenge.rw_pg0104_01.row.prog w) (ktrTop dp un gd cn cs L a ccd cl outer) (call (.ref 114) [.float x t, .int n u]) Q E s :=
  near_fi V hB F KX N T hk hdp hun hn hn2 (fun h' tk' F' N' => by rw [h]; exact hret h' tk' F' N')
end
end Mine
end
section
open PySem PySem.W PySem.Spec PySem.Calls PyProof.Rows
namespace Mine
noncomputable abbrev dOf {q : Program} {l : List Str} {X : (Str → Option Value) → Heap → Prop} {Y : World → Heap → Prop} {r : RowW} {d : DefRec} {k : List (Str × PySem.Expr)} {run : Value → List Value → Sem Value} {H : Prop} (_ : WalkC q l X Y r d k run → H) : DefRec := d
noncomputable def lawRec : DefRec := dOf hd
noncomputable def lawS : Scope := lawRec.scope
noncomputable def fm : List (Str × Value) → Str → Option Value
  | [], _ => none
  | p :: r, y => if y = p.1 then some p.2 else fm r y
noncomputable def fmu : List (Str × Value) → (Str → Option Value) → Str → Option Value
  | [], u, y => u y
  | p :: r, u, y => if y = p.1 then some p.2 else fmu r u y
noncomputable abbrev S (x : String) : Str := Str.ofString x
noncomputable abbrev lawCl (cF cO c1 cC : Addr) : List (Str × Addr) := [(S "first", cF), (S "other", cO), (S "one", c1), (S "count", cC)]
theorem frEq {h₀ h : Heap} {L : Addr} {m m' : Str → Option Value} (F : Fr h₀ L h m) (e : ∀ z, m z = m' z) : Fr h₀ L h m' := (funext e : m = m') ▸ F
theorem newsSub {h₀ h : Heap} {L : Addr} {news news' : List (Addr × Obj)} (hs : List.Sublist news' news) (N : News h₀ L h news) : News h₀ L h news' := fun p hp => N p (hs.subset hp)
theorem isListLit {h₀ h : Heap} {L l : Addr} {news : List (Addr × Obj)} {arr : Array Value} {n : Nat} (N : News h₀ L h news) (hm : (l, W.listOf arr n) ∈ news) : h.IsList l (List.toArray arr.toList) := ⟨_, (N _ hm).1, rfl, n, by simp⟩
theorem slice_i {prog : Program} {w : World} {A : Around} {E : Value → Shared → Prop} {hp : Heap} {g : Array GenState} {d : Drawn} {tk : Nat} {os : OsState} {h₀ : Heap} {L l : Addr} {m : Str → Option Value} {news : List (Addr × Obj)} {value slice : PySem.Expr} {vs : List Value} {ns ms : List Int} {vl vu : Value} {lo hi : Option Int} {c : Nat} {Q : Value → Shared → Prop}
    (F : Fr h₀ L hp m) (N : News h₀ L hp news) (hl : hp.IsList l vs.toArray) (pl : IsPart vl lo) (pu : IsPart vu hi) (hi' : IntsAre vs ns) (hm : IntsAre (slicePick vs.toArray lo hi none).toList ms) (hc : ms.length = c)
    (h : ∀ D ws h', Fr h₀ L h' m → News h₀ L h' ((D, W.listOf (List.toArray ws) 0) :: news) → (∀ p ∈ news, p.1 < D) → IntsAre ws ms → ms.length = c → ms.length ≤ ns.length → Q (.ref D) ⟨h', g, d, tk, os⟩)
    (hs : subscripted slice false (.ref l) (.ref hp.objs.size) = operate [.ref hp.objs.size, .ref l] (getItem (.ref l) (.ref hp.objs.size))) (ht : ∀ r, letTemporaryGo value (.ref l) r = pure ()) (hz : vs.toArray.size ≤ sizeLine) :
    wpAny (model prog w) A (subscriptTail value slice (.ref l) (.ref hp.objs.size)) Q E ⟨hp.push { cls := .type "slice", data := .fields #[vl, vu, .none] }, g, d, tk, os⟩ :=
  kmk_slice_ints (s := ⟨hp, g, d, tk, os⟩) F N hl pl pu hi' hm hc h hs ht hz
theorem mulii_cl {prog : Program} {w : World} {A : Around} {E : Value → Shared → Prop} {s : Shared} {x n : Int} {t u : Tok} {Q : Value → Shared → Prop} (h1 : -1000 ≤ n) (h2 : n ≤ 1000)
    (h : Q (.int (x * n) s.toks) { s with toks := s.toks + 1 }) : wpAny (model prog w) A (binaryOp .Mult (.int x t) (.int n u)) Q E s :=
  PyProof.Rows.mul_int h (IntMulOk.of_right (PySem.intBits_le_64 (by omega) (by omega)))
theorem item0 {prog : Program} {w : World} {A : Around} {E : Value → Shared → Prop} {s : Shared} {h₀ : Heap} {L D : Addr} {news : List (Addr × Obj)} {value slice : PySem.Expr} {ys : List Value} {ms zs : List Int} {r i : Int} {u : Tok} {Q : Value → Shared → Prop}
    (N : News h₀ L s.heap news) (hm : (D, LCg.lst ys) ∈ news) (hI : IntsAre ys ms) (e : ms = r :: zs) (ei : i = 0) (h : ∀ t, Q (.int r t) s)
    (hs : subscripted slice false (.ref D) (.int i u) = operate [.ref D, .int i u] (getItem (.ref D) (.int i u)) := by with_unfolding_all rfl) :
    wpAny (model prog w) A (subscriptTail value slice (.ref D) (.int i u)) Q E s := by
  subst e
  subst ei
  cases hI with
  | cons _ t hI =>
    rename_i ys
    have hl : s.heap.IsList D (List.toArray (.int r t :: ys)) := ⟨_, (N _ hm).1, rfl, _, rfl⟩
    exact tail_any hl.typeIs slot_list_getitem.lookup (wpAny_getItem_list hl (by decide) (by decide) (by simp) (h t)) hs
theorem neNil {prog : Program} {w : World} {A : Around} {E : Value → Shared → Prop} {s : Shared} {h₀ : Heap} {L D D' : Addr} {news : List (Addr × Obj)} {ys : List Value} {ms : List Int} {n : Nat} {b : Bool} {Q : Value → Shared → Prop}
    (N : News h₀ L s.heap news) (hm : (D, LCg.lst ys) ∈ news) (hm' : (D', W.listOf #[] n) ∈ news) (hI : IntsAre ys ms) (hu : A.units + 64 < cLine) (hb : (!decide (ms = [])) = b) (h : Q (.bool b) s) :
    wpAny (model prog w) A (compareOp CmpOp.NotEq (.ref D) (.ref D')) Q E s := by
  subst hb
  exact ke_ne_ints (xs := ys) (ys := []) ⟨_, (N _ hm).1, rfl, _, rfl⟩ ⟨_, (N _ hm').1, rfl, _, rfl⟩ hI IntsAre.nil hu h
end Mine
end
section
open PySem PySem.W PySem.Spec PySem.Calls PyProof.Rows
namespace Mine
theorem rows_LawP1 : True := by
  k_with_none
  w_top off
  k_with "storeName" => ((k_here; k_dflt (refine' storeL9 ?F9z ?N9z ?_ ?a9z ?b9z; (case F9z => k_asm); (case N9z => k_asm); (case a9z => rfl); (case b9z => rfl); k_whole; intro h' m' F' N'; (try k_sweep))))
  k_with "ktr_room" => (first | exact rmK (k := 0) (by assumption) (by decide) | exact rmK (k := 1) (by assumption) (by decide) | exact rmK (k := 2) (by assumption) (by decide) | exact rmK (k := 3) (by assumption) (by decide) | exact rmK (k := 4) (by assumption) (by decide) | exact rmK (k := 5) (by assumption) (by decide) | exact rmK (k := 6) (by assumption) (by decide) | exact rmK (k := 7) (by assumption) (by decide) | exact rmK (k := 8) (by assumption) (by decide) | exact rmK (k := 9) (by assumption) (by decide))
  k_with "ktr_units" => (first | exact rmK (k := 0) (by assumption) (by decide) | exact rmK (k := 1) (by assumption) (by decide) | exact rmK (k := 2) (by assumption) (by decide) | exact rmK (k := 3) (by assumption) (by decide) | exact rmK (k := 4) (by assumption) (by decide) | exact rmK (k := 5) (by assumption) (by decide) | exact rmK (k := 6) (by assumption) (by decide) | exact rmK (k := 7) (by assumption) (by decide) | exact rmK (k := 8) (by assumption) (by decide) | exact rmK (k := 9) (by assumption) (by decide) | exact rmK (k := 10) (by assumption) (by decide) | exact rmK (k := 12) (by assumption) (by decide) | exact rmK (k := 13) (by assumption) (by decide) | exact rmK (k := 14) (by assumption) (by decide) | exact rmK (k := 15) (by assumption) (by decide) | exact rmK (k := 16) (by assumption) (by decide) | exact rmK (k := 17) (by assumption) (by decide) | exact rmK (k := 18) (by assumption) (by decide) | exact rmK (k := 20) (by assumption) (by decide) | exact rmK (k := 21) (by assumption) (by decide) | exact rmK (k := 22) (by assumption) (by decide) | exact rmK (k := 23) (by assumption) (by decide) | exact rmK (k := 24) (by assumption) (by decide) | exact rmK (k := 25) (by assumption) (by decide) | exact rmK (k := 26) (by assumption) (by decide) | exact rmK (k := 30) (by assumption) (by decide) | exact rmK (k := 32) (by assumption) (by decide) | exact rmK (k := 33) (by assumption) (by decide) | exact rmK (k := 34) (by assumption) (by decide) | exact rmK (k := 36) (by assumption) (by decide) | exact rmK (k := 64) (by assumption) (by decide) | exact rmK (k := 65) (by assumption) (by decide) | exact rmK (k := 66) (by assumption) (by decide) | exact rmK (k := 68) (by assumption) (by decide))
  trivial
theorem rows_LawP1_0 : True := by
  k_with "subscriptTail Name Slice ref ref" => ((k_here; (with_reducible show wpAny _ _ (subscriptTail _ (PySem.Expr.Slice _ _ none _) (Value.ref _) (Value.ref _)) _ _ _); (try dsimp only); k_dflt (refine' slice_i ?F9z ?N9z ?l9z ?p9z ?q9z ?i9z ?m9z ?c9z ?_ ?s9z ?t9z ?z9z; (case F9z => k_asm); (case N9z => k_asm); (case l9z => first | kmk_list | exact isListLit (by k_asm) (by k_mem)); (case p9z => kmk_part); (case q9z => kmk_part); (case i9z => first | exact IntsAre.cons _ _ (IntsAre.cons _ _ (IntsAre.cons _ _ (IntsAre.cons _ _ IntsAre.nil))) | l_ints); (case m9z => first | exact kmk_from (IntsAre.cons _ _ (IntsAre.cons _ _ (IntsAre.cons _ _ (IntsAre.cons _ _ IntsAre.nil)))) (by omega) | kmk_nums); (case c9z => kmk_len); (case s9z => with_unfolding_all rfl); (case t9z => kmk_pure); (case z9z => kmk_size)); intro D' ws' h' F' N' l1 hI' hC' hL'; (try simp only [Int.reduceNeg, Int.neg_neg, Int.reduceToNat] at hI' hC' hL'); (try k_lt l1); (try k_sweep)))
  k_with "k_steps" => (repeat' (first | (k_unfold; (try dsimp only)) | (k_end; wrow_close) | ((with_reducible show wpAny _ _ (subscriptTail _ _ _ _) _ _ _); walk1) | ((try dsimp only); walk1) | walk1 | (leave1; walk_say "STEP leave1"; try dsimp only) | fail "no step"))
  trivial
theorem ints4 {ws : List Value} {ns : List Int} (h : IntsAre ws ns) (hl : ns.length = 4) : ∃ (z0 z1 z2 z3 : Int) (t0 t1 t2 t3 : Tok), ws = [.int z0 t0, .int z1 t1, .int z2 t2, .int z3 t3] := by
  refine hidG fun hn => ?_
  have e : ws.length = 4 := h.length.trans hl
  obtain ⟨a, ws, rfl⟩ := List.exists_cons_of_length_pos (l := ws) (by rw [e]; decide)
  obtain ⟨b, ws, rfl⟩ := List.exists_cons_of_length_pos (l := ws) (by have := Nat.succ.inj e; rw [this]; decide)
  obtain ⟨c, ws, rfl⟩ := List.exists_cons_of_length_pos (l := ws) (by have := Nat.succ.inj (Nat.succ.inj e); rw [this]; decide)
  obtain ⟨d, ws, rfl⟩ := List.exists_cons_of_length_pos (l := ws) (by have := Nat.succ.inj (Nat.succ.inj (Nat.succ.inj e)); rw [this]; decide)
  have e4 : ws = [] := List.eq_nil_of_length_eq_zero (Nat.succ.inj (Nat.succ.inj (Nat.succ.inj (Nat.succ.inj e))))
  subst e4
  obtain ⟨k0, t0, q0, _⟩ := IntsAre.at h 0 a rfl
  obtain ⟨k1, t1, q1, _⟩ := IntsAre.at h 1 b rfl
  obtain ⟨k2, t2, q2, _⟩ := IntsAre.at h 2 c rfl
  obtain ⟨k3, t3, q3, _⟩ := IntsAre.at h 3 d rfl
  exact hn.ex ⟨k0, k1, k2, k3, t0, t1, t2, t3, by rw [q0, q1, q2, q3]⟩
section
variable {w : World} {mean : ExcName → Option Value} {mg mb : Str → Option Value} {dp un : Nat} {gd : Option (List Code)} {a : Addr} {ccd : Value} {outer : List Env} {A₀ : Around} {base h₀ hV : Heap} {L : Addr} {s : Shared} {Q : Flow → Shared → Prop} {E : Value → Shared → Prop} {cF cO c1 cC : Addr}
  (V : LooseAre looseV mg hV) (hB : Below A₀ base outer h₀) (KX : (hd.heap_39 w.params).In h₀) (T : Top hd.view_39 (looseW hd.view_39 looseN) mean mg mb h₀)
  (hdp : dp + 9 < recursionLimit) (hun : un + 30 < cLine)
include V hB KX T hdp hun
theorem law_p1 {l : Addr} {vs : List Value} {ns : List Int} {oF oO o1 oC : Obj} (hl : h₀.IsList l vs.toArray) (hi : IntsAre vs ns) (hlen : ns.length ≤ 63) (F : Fr h₀ L s.heap (fm [(S "script", .ref l)]))
    (N : News h₀ L s.heap [(cF, oF), (cO, oO), (c1, o1), (cC, oC)])
    (hret : ∀ (z0 z1 z2 z3 : Int) (t0 t1 t2 t3 : Tok) (la : Addr) (cap : Nat) (h' : Heap) (tk' : Nat), @LT.lt Nat _ cF la → Fr h₀ L h' (fm [(S "numbers", .ref la), (S "script", .ref l)]) →
      News h₀ L h' [(la, W.listOf #[.int z0 t0, .int z1 t1, .int z2 t2, .int z3 t3] cap), (cF, oF), (cO, oO), (c1, o1), (cC, oC)] → Q .next { s with heap := h', toks := tk' }) :
    wpAny (model Challenge.rw_pg0104_01.row.prog w) (ktrTop dp un gd (S "law") lawS L a ccd (lawCl cF cO c1 cC) outer) (execs (lawRec.body.take 1) (envX (S "law") lawS L a ccd (lawCl cF cO c1 cC))) Q E s := by
  revert KX; k_fill; intro KX
  dsimp only [lawRec, dOf, List.take]
  k_steps
  rename IntsAre _ _ => hI9
  obtain ⟨z0, z1, z2, z3, t0, t1, t2, t3, e⟩ := ints4 hI9 (by simp only [List.length_append, List.length_drop, List.length_take, List.length_cons, List.length_nil]; clear hret; (first | lia | omega))
  subst e
  refine hret z0 z1 z2 z3 t0 t1 t2 t3 ?la 0 ?h ?tk ?lt ?F ?N
  case F => assumption
  case N =>
    rename News _ _ _ _ => N9
    refine newsSub ?_ N9
    (repeat (first | exact List.Sublist.refl _ | (refine List.Sublist.cons_cons _ ?_) | (refine List.Sublist.cons _ ?_)))
  case lt => clear hret; omega
end
end Mine
end
section
open PySem PySem.W PySem.Spec PySem.Calls PyProof.Rows
namespace Mine
theorem rows_LawP2 : True := by
  k_with_none
  w_top off
  k_with "storeName" => ((k_here; k_dflt (refine' storeL9 ?F9z ?N9z ?_ ?a9z ?b9z; (case F9z => k_asm); (case N9z => k_asm); (case a9z => rfl); (case b9z => rfl); k_whole; intro h' m' F' N'; (try k_sweep))))
  k_with "ktr_room" => (first | exact rmK (k := 0) (by assumption) (by decide) | exact rmK (k := 1) (by assumption) (by decide) | exact rmK (k := 2) (by assumption) (by decide) | exact rmK (k := 3) (by assumption) (by decide) | exact rmK (k := 4) (by assumption) (by decide) | exact rmK (k := 5) (by assumption) (by decide) | exact rmK (k := 6) (by assumption) (by decide) | exact rmK (k := 7) (by assumption) (by decide) | exact rmK (k := 8) (by assumption) (by decide) | exact rmK (k := 9) (by assumption) (by decide))
  k_with "ktr_units" => (first | exact rmK (k := 0) (by assumption) (by decide) | exact rmK (k := 1) (by assumption) (by decide) | exact rmK (k := 2) (by assumption) (by decide) | exact rmK (k := 3) (by assumption) (by decide) | exact rmK (k := 4) (by assumption) (by decide) | exact rmK (k := 5) (by assumption) (by decide) | exact rmK (k := 6) (by assumption) (by decide) | exact rmK (k := 7) (by assumption) (by decide) | exact rmK (k := 8) (by assumption) (by decide) | exact rmK (k := 9) (by assumption) (by decide) | exact rmK (k := 10) (by assumption) (by decide) | exact rmK (k := 12) (by assumption) (by decide) | exact rmK (k := 13) (by assumption) (by decide) | exact rmK (k := 14) (by assumption) (by decide) | exact rmK (k := 15) (by assumption) (by decide) | exact rmK (k := 16) (by assumption) (by decide) | exact rmK (k := 17) (by assumption) (by decide) | exact rmK (k := 18) (by assumption) (by decide) | exact rmK (k := 20) (by assumption) (by decide) | exact rmK (k := 21) (by assumption) (by decide) | exact rmK (k := 22) (by assumption) (by decide) | exact rmK (k := 23) (by assumption) (by decide) | exact rmK (k := 24) (by assumption) (by decide) | exact rmK (k := 25) (by assumption) (by decide) | exact rmK (k := 26) (by assumption) (by decide) | exact rmK (k := 30) (by assumption) (by decide) | exact rmK (k := 32) (by assumption) (by decide) | exact rmK (k := 33) (by assumption) (by decide) | exact rmK (k := 34) (by assumption) (by decide) | exact rmK (k := 36) (by assumption) (by decide) | exact rmK (k := 64) (by assumption) (by decide) | exact rmK (k := 65) (by assumption) (by decide) | exact rmK (k := 66) (by assumption) (by decide) | exact rmK (k := 68) (by assumption) (by decide))
  trivial
theorem rows_LawP2_0 : True := by
  k_with "k_ne" => ((refine neN ?_; (try dsimp only); first | assumption | (apply Ne.symm; assumption)))
  k_with "k_steps" => (repeat' (first | (k_unfold; (try dsimp only)) | (k_end; wrow_close) | ((with_reducible show wpAny _ _ (subscriptTail _ _ _ _) _ _ _); walk1) | ((try dsimp only); walk1) | walk1 | (leave1; walk_say "STEP leave1"; try dsimp only) | fail "no step"))
  trivial
theorem dist5 {a b c d e : Nat} (h : b < a ∧ c < b ∧ d < c ∧ a < e) : (e ≠ a ∧ e ≠ b ∧ e ≠ c ∧ e ≠ d) ∧ (a ≠ b ∧ a ≠ c ∧ a ≠ d) ∧ b ≠ c ∧ b ≠ d ∧ c ≠ d := by
  obtain ⟨h1, h2, h3, h4⟩ := h
  have h5 := Nat.lt_trans h2 h1
  have h6 := Nat.lt_trans h3 h2
  have h7 := Nat.lt_trans h3 h5
  exact ⟨⟨Nat.ne_of_gt h4, Nat.ne_of_gt (Nat.lt_trans h1 h4), Nat.ne_of_gt (Nat.lt_trans h5 h4), Nat.ne_of_gt (Nat.lt_trans h7 h4)⟩, ⟨Nat.ne_of_gt h1, Nat.ne_of_gt h5, Nat.ne_of_gt h7⟩, Nat.ne_of_gt h2, Nat.ne_of_gt h6, Nat.ne_of_gt h3⟩
theorem c9 (q : Int) : 2 ≤ q.fmod 9 + 2 ∧ q.fmod 9 + 2 ≤ 10 := by
  have h1 := Int.fmod_nonneg_of_pos q (show (0 : Int) < 9 by decide)
  have h2 := Int.fmod_lt_of_pos q (show (0 : Int) < 9 by decide)
  omega
theorem z4 {q : Int} (h : 4 * (q.fmod 9 + 2) = 0) : False := by
  have := c9 q
  omega
theorem e9 (q r : Int) : -(2 * (q.fmod 9 + 2)) ≤ r.fmod (4 * (q.fmod 9 + 2)) - 2 * (q.fmod 9 + 2) ∧ r.fmod (4 * (q.fmod 9 + 2)) - 2 * (q.fmod 9 + 2) < 2 * (q.fmod 9 + 2) := by
  have := c9 q
  generalize q.fmod 9 + 2 = c at *
  have h1 := Int.fmod_nonneg_of_pos r (show (0 : Int) < 4 * c by omega)
  have h2 := Int.fmod_lt_of_pos r (show (0 : Int) < 4 * c by omega)
  omega
theorem o9 (q r : Int) : 0 ≤ r.fmod (3 * (q.fmod 9 + 2)) ∧ r.fmod (3 * (q.fmod 9 + 2)) < 3 * (q.fmod 9 + 2) := by
  have := c9 q
  generalize q.fmod 9 + 2 = c at *
  exact ⟨Int.fmod_nonneg_of_pos r (by omega), Int.fmod_lt_of_pos r (by omega)⟩
theorem f9 (q r : Int) : 0 ≤ r.fmod (q.fmod 9 + 2) ∧ r.fmod (q.fmod 9 + 2) < q.fmod 9 + 2 := by
  have := c9 q
  generalize q.fmod 9 + 2 = c at *
  exact ⟨Int.fmod_nonneg_of_pos r (by omega), Int.fmod_lt_of_pos r (by omega)⟩
section
variable {w : World} {mean : ExcName → Option Value} {mg mb : Str → Option Value} {dp un : Nat} {gd : Option (List Code)} {a : Addr} {ccd : Value} {outer : List Env} {A₀ : Around} {base h₀ hV : Heap} {L : Addr} {s : Shared} {Q : Flow → Shared → Prop} {E : Value → Shared → Prop} {cF cO c1 cC : Addr}
  (V : LooseAre looseV mg hV) (hB : Below A₀ base outer h₀) (KX : (hd.heap_39 w.params).In h₀) (T : Top hd.view_39 (looseW hd.view_39 looseN) mean mg mb h₀)
  (hdp : dp + 9 < recursionLimit) (hun : un + 30 < cLine)
include V hB KX T hdp hun
theorem law_p2 {l la : Addr} {z0 z1 z2 z3 : Int} {t0 t1 t2 t3 : Tok} {cap : Nat} {oF oO o1 oC : Obj} {vF vO v1 vC : Option Value} (F : Fr h₀ L s.heap (fm [(S "numbers", .ref la), (S "script", .ref l)]))
    (N : News h₀ L s.heap [(la, W.listOf #[.int z0 t0, .int z1 t1, .int z2 t2, .int z3 t3] cap), (cF, oF), (cO, oO), (c1, o1), (cC, oC)])
    (hdist : @LT.lt Nat _ cO cF ∧ @LT.lt Nat _ c1 cO ∧ @LT.lt Nat _ cC c1 ∧ @LT.lt Nat _ cF la) (dF : oF.data = .cell vF) (dO : oO.data = .cell vO) (d1 : o1.data = .cell v1) (dC : oC.data = .cell vC)
    (hret : ∀ (c f e1 e2 : Int) (t0 t1 t2 t3 : Tok) (oF oO o1 oC : Obj) (h' : Heap) (tk' : Nat), 2 ≤ c → c ≤ 10 → -(2 * c) ≤ e1 → e1 < 2 * c → 0 ≤ e2 → e2 < 3 * c → 0 ≤ f → f < c → Fr h₀ L h' (fm [(S "numbers", .ref la), (S "script", .ref l)]) →
      News h₀ L h' [(cF, oF), (cO, oO), (c1, o1), (cC, oC)] → oF.data = .cell (some (.int f t0)) → oO.data = .cell (some (.int e2 t1)) → o1.data = .cell (some (.int e1 t2)) → oC.data = .cell (some (.int c t3)) → Q .next { s with heap := h', toks := tk' }) :
    wpAny (model Challenge.rw_pg0104_01.row.prog w) (ktrTop dp un gd (S "law") lawS L a ccd (lawCl cF cO c1 cC) outer) (execs ((lawRec.body.drop 1).take 4) (envX (S "law") lawS L a ccd (lawCl cF cO c1 cC))) Q E s := by
  obtain ⟨⟨x1, x2, x3, x4⟩, ⟨x5, x6, x7⟩, x8, x9, x0⟩ := dist5 hdist
  clear hdist
  revert KX; k_fill; intro KX
  dsimp only [lawRec, dOf, List.take, List.drop]
  k_steps
  · exact (z4 (by assumption)).elim
  rename News _ _ _ _ => N9
  have hN := newsSub (List.Sublist.cons _ (List.Sublist.refl _)) N9
  exact hret _ _ _ _ _ _ _ _ _ _ _ _ _ _ (c9 _).1 (c9 _).2 (e9 _ _).1 (e9 _ _).2 (o9 _ _).1 (o9 _ _).2 (f9 _ _).1 (f9 _ _).2 (by assumption) hN (by assumption) (by assumption) (by assumption) (by assumption)
end
end Mine
end
section
open PySem PySem.W PySem.Spec PySem.Calls PyProof.Rows
namespace Mine
theorem foldl_filt (p : Int → Prop) [DecidablePred p] : ∀ (l acc : List Int), l.foldl (fun l' k' => if p k' then l' ++ [k'] else l') acc = acc ++ l.filter (fun k => decide (p k))
  | [], acc => by simp
  | k :: l, acc => by
    rw [List.foldl_cons, foldl_filt p l]
    by_cases h : p k
    · simp [h]
    · simp [h]
theorem rangeKs_succ (a : Int) (n : Nat) : rangeKs a (n + 1) = a :: rangeKs (a + 1) n := by
  unfold rangeKs
  rw [List.range_succ_eq_map, List.map_cons, List.map_map]
  congr 1
  · simp
  · apply List.map_congr_left
    intro i _
    simp only [Function.comp]
    push_cast
    (first | lia | omega)
theorem filt_head (p : Int → Bool) : ∀ (n : Nat) (a r : Int) (zs : List Int), (rangeKs a n).filter p = r :: zs → a ≤ r ∧ r < a + n ∧ p r = true ∧ ∀ k, a ≤ k → k < r → p k = false
  | 0, a, r, zs, h => by simp [rangeKs] at h
  | n + 1, a, r, zs, h => by
    rw [rangeKs_succ, List.filter_cons] at h
    cases hp : p a with
    | true =>
      rw [hp, if_pos rfl] at h
      injection h with h1 h2
      subst h1
      exact ⟨Int.le_refl _, by push_cast; (first | lia | omega), hp, fun k h1 h2 => by (first | lia | omega)⟩
    | false =>
      rw [hp, if_neg (by simp)] at h
      obtain ⟨h1, h2, h3, h4⟩ := filt_head p n (a + 1) r zs h
      refine ⟨by (first | lia | omega), by push_cast; (first | lia | omega), h3, fun k k1 k2 => ?_⟩
      by_cases e : k = a
      · subst e; exact hp
      · exact h4 k (by (first | lia | omega)) k2
theorem filt_nil (p : Int → Bool) : ∀ (n : Nat) (a : Int), (rangeKs a n).filter p = [] → ∀ k, a ≤ k → k < a + n → p k = false
  | 0, a, h, k, k1, k2 => by simp at k2; (first | lia | omega)
  | n + 1, a, h, k, k1, k2 => by
    rw [rangeKs_succ, List.filter_cons] at h
    cases hp : p a with
    | true => rw [hp, if_pos rfl] at h; cases h
    | false =>
      rw [hp, if_neg (by simp)] at h
      by_cases e : k = a
      · subst e; exact hp
      · exact filt_nil p n (a + 1) h k (by (first | lia | omega)) (by push_cast at k2; (first | lia | omega))
structure Rd (c D r : Int) : Prop where
  h1 : 1 ≤ r
  h2 : r ≤ c
  h3 : (r * D).fmod c = 0
  h4 : ∀ k, 1 ≤ k → k < r → (k * D).fmod c ≠ 0
theorem rounds_ex {c D : Int} (h : 2 ≤ c) : ∃ r zs, (rangeKs 1 (c + 1 - 1).toNat).foldl (fun l' k' => if (k' * D).fmod c = 0 then l' ++ [k'] else l') [] = r :: zs ∧ Rd c D r := by
  rw [foldl_filt (fun k => (k * D).fmod c = 0), List.nil_append]
  have hn : (((c + 1 - 1).toNat : Nat) : Int) = c := by (first | lia | omega)
  cases e : (rangeKs 1 (c + 1 - 1).toNat).filter (fun k => decide ((k * D).fmod c = 0)) with
  | nil =>
    have := filt_nil _ _ _ e c (by (first | lia | omega)) (by (first | lia | omega))
    simp only [decide_eq_false_iff_not] at this
    exact absurd (Int.fmod_eq_zero_of_dvd ⟨D, rfl⟩) this
  | cons r zs =>
    obtain ⟨h1, h2, h3, h4⟩ := filt_head _ _ _ _ _ e
    refine ⟨r, zs, rfl, h1, by (first | lia | omega), of_decide_eq_true h3, fun k k1 k2 => ?_⟩
    have := h4 k k1 k2
    simpa using this
inductive Mt (c D e r : Int) : List Int → Prop where
  | none : (∀ q, 0 ≤ q → q < r → (q * D + e).fmod c ≠ 0) → Mt c D e r []
  | some (q : Int) (zs : List Int) : 0 ≤ q → q < r → (q * D + e).fmod c = 0 → (∀ k, 0 ≤ k → k < q → (k * D + e).fmod c ≠ 0) → Mt c D e r (q :: zs)
theorem meets_ex {c D e r : Int} (h : 0 ≤ r) : Mt c D e r ((rangeKs 0 (r - 0).toNat).foldl (fun l' k' => if (k' * D + e).fmod c = 0 then l' ++ [k'] else l') []) := by
  rw [foldl_filt (fun k => (k * D + e).fmod c = 0), List.nil_append]
  have hn : (((r - 0).toNat : Nat) : Int) = r := by (first | lia | omega)
  cases e' : (rangeKs 0 (r - 0).toNat).filter (fun k => decide ((k * D + e).fmod c = 0)) with
  | nil =>
    refine .none fun q q1 q2 => ?_
    have := filt_nil _ _ _ e' q q1 (by (first | lia | omega))
    simpa using this
  | cons q zs =>
    obtain ⟨h1, h2, h3, h4⟩ := filt_head _ _ _ _ _ e'
    refine .some q zs h1 (by (first | lia | omega)) (of_decide_eq_true h3) fun k k1 k2 => ?_
    have := h4 k k1 k2
    simpa using this
end Mine
end
section
open PySem PySem.W PySem.Spec PySem.Calls PyProof.Rows
namespace Mine
theorem rows_LawP3 : True := by
  k_with_none
  w_top off
  k_with "storeName" => ((k_here; k_dflt (refine' storeL9 ?F9z ?N9z ?_ ?a9z ?b9z; (case F9z => k_asm); (case N9z => k_asm); (case a9z => rfl); (case b9z => rfl); k_whole; intro h' m' F' N'; (try k_sweep))))
  k_with "ktr_room" => (first | exact rmK (k := 0) (by assumption) (by decide) | exact rmK (k := 1) (by assumption) (by decide) | exact rmK (k := 2) (by assumption) (by decide) | exact rmK (k := 3) (by assumption) (by decide) | exact rmK (k := 4) (by assumption) (by decide) | exact rmK (k := 5) (by assumption) (by decide) | exact rmK (k := 6) (by assumption) (by decide) | exact rmK (k := 7) (by assumption) (by decide) | exact rmK (k := 8) (by assumption) (by decide) | exact rmK (k := 9) (by assumption) (by decide))
  k_with "ktr_units" => (first | exact rmK (k := 0) (by assumption) (by decide) | exact rmK (k := 1) (by assumption) (by decide) | exact rmK (k := 2) (by assumption) (by decide) | exact rmK (k := 3) (by assumption) (by decide) | exact rmK (k := 4) (by assumption) (by decide) | exact rmK (k := 5) (by assumption) (by decide) | exact rmK (k := 6) (by assumption) (by decide) | exact rmK (k := 7) (by assumption) (by decide) | exact rmK (k := 8) (by assumption) (by decide) | exact rmK (k := 9) (by assumption) (by decide) | exact rmK (k := 10) (by assumption) (by decide) | exact rmK (k := 12) (by assumption) (by decide) | exact rmK (k := 13) (by assumption) (by decide) | exact rmK (k := 14) (by assumption) (by decide) | exact rmK (k := 15) (by assumption) (by decide) | exact rmK (k := 16) (by assumption) (by decide) | exact rmK (k := 17) (by assumption) (by decide) | exact rmK (k := 18) (by assumption) (by decide) | exact rmK (k := 20) (by assumption) (by decide) | exact rmK (k := 21) (by assumption) (by decide) | exact rmK (k := 22) (by assumption) (by decide) | exact rmK (k := 23) (by assumption) (by decide) | exact rmK (k := 24) (by assumption) (by decide) | exact rmK (k := 25) (by assumption) (by decide) | exact rmK (k := 26) (by assumption) (by decide) | exact rmK (k := 30) (by assumption) (by decide) | exact rmK (k := 32) (by assumption) (by decide) | exact rmK (k := 33) (by assumption) (by decide) | exact rmK (k := 34) (by assumption) (by decide) | exact rmK (k := 36) (by assumption) (by decide) | exact rmK (k := 64) (by assumption) (by decide) | exact rmK (k := 65) (by assumption) (by decide) | exact rmK (k := 66) (by assumption) (by decide) | exact rmK (k := 68) (by assumption) (by decide))
  trivial
theorem rows_LawP3_0 : True := by
  k_with "k_ne" => ((refine neN ?_; (try dsimp only); first | assumption | (apply Ne.symm; assumption)))
  k_with "binaryOp Mult int int" => ((k_here; (with_reducible show wpAny _ _ (binaryOp Operator.Mult (Value.int _ _) (Value.int _ _)) _ _ _); (refine mulii_cl (by omega) (by omega) ?_); (try dsimp only)))
  k_with "subscriptTail" => ((k_here; (with_reducible show wpAny _ _ (subscriptTail _ _ (Value.ref _) (Value.int _ _)) _ _ _); (rename IntsAre _ _ => lI9); (rename _ = _ :: _ => lE9); (try dsimp only); k_dflt (refine' item0 ?N9z ?m9z lI9 lE9 ?e9z ?_ ?s9z; (case N9z => k_asm); (case m9z => k_mem); (case e9z => rfl); (case s9z => with_unfolding_all rfl); k_whole); intro t9; (try dsimp only)))
  k_with "k_steps" => (repeat' (first | ((with_reducible rename (_ ∧ _) ∧ _ => lz9); obtain ⟨⟨_, _, _⟩, ⟨_, _, _⟩, ⟨_, _, _⟩, ⟨_, _, _⟩⟩ := lz9) | (k_unfold; (try dsimp only)) | (k_end; wrow_close) | ((with_reducible show wpAny _ _ (subscriptTail _ _ _ _) _ _ _); walk1) | ((try dsimp only); walk1) | walk1 | (leave1; walk_say "STEP leave1"; try dsimp only) | fail "no step"))
  trivial
section
variable {w : World} {mean : ExcName → Option Value} {mg mb : Str → Option Value} {dp un : Nat} {gd : Option (List Code)} {a : Addr} {ccd : Value} {outer : List Env} {A₀ : Around} {base h₀ hV : Heap} {L : Addr} {s : Shared} {Q : Flow → Shared → Prop} {E : Value → Shared → Prop} {cF cO c1 cC : Addr}
  (V : LooseAre looseV mg hV) (hB : Below A₀ base outer h₀) (KX : (hd.heap_39 w.params).In h₀) (T : Top hd.view_39 (looseW hd.view_39 looseN) mean mg mb h₀)
  (hdp : dp + 9 < recursionLimit) (hun : un + 30 < cLine)
include V hB KX T hdp hun
theorem law_p3 {l la : Addr} {c f e1 e2 : Int} {t0 t1 t2 t3 : Tok} {oF oO o1 oC : Obj} (b1 : 2 ≤ c) (b2 : c ≤ 10) (b3 : -(2 * c) ≤ e1) (b4 : e1 < 2 * c) (b5 : 0 ≤ e2) (b6 : e2 < 3 * c) (F : Fr h₀ L s.heap (fm [(S "numbers", .ref la), (S "script", .ref l)]))
    (N : News h₀ L s.heap [(cF, oF), (cO, oO), (c1, o1), (cC, oC)])
    (hdist : @LT.lt Nat _ cO cF ∧ @LT.lt Nat _ c1 cO ∧ @LT.lt Nat _ cC c1) (dF : oF.data = .cell (some (.int f t0))) (dO : oO.data = .cell (some (.int e2 t1))) (d1 : o1.data = .cell (some (.int e1 t2))) (dC : oC.data = .cell (some (.int c t3)))
    (hret : ∀ (r : Int) (tr : Tok) (h' : Heap) (tk' : Nat), Rd c (e1 + e2) r → Fr h₀ L h' (fm [(S "rounds", .int r tr), (S "numbers", .ref la), (S "script", .ref l)]) →
      News h₀ L h' [(cF, oF), (cO, oO), (c1, o1), (cC, oC)] → Q .next { s with heap := h', toks := tk' }) :
    wpAny (model Challenge.rw_pg0104_01.row.prog w) (ktrTop dp un gd (S "law") lawS L a ccd (lawCl cF cO c1 cC) outer) (execs ((lawRec.body.drop 5).take 1) (envX (S "law") lawS L a ccd (lawCl cF cO c1 cC))) Q E s := by
  revert KX; k_fill; intro KX
  dsimp only [lawRec, dOf, List.take, List.drop]
  obtain ⟨r9, zs9, hE9, hR9⟩ := rounds_ex (c := c) (D := e1 + e2) b1
  k_steps
  rename News _ _ _ _ => N9
  exact hret _ _ _ _ hR9 (by assumption) (newsSub (List.Sublist.cons _ (List.Sublist.refl _)) N9)
end
end Mine
end
section
open PySem PySem.W PySem.Spec PySem.Calls PyProof.Rows
namespace Mine
theorem rows_LawP4 : True := by
  k_with_none
  w_top off
  k_with "storeName" => ((k_here; k_dflt (refine' storeL9 ?F9z ?N9z ?_ ?a9z ?b9z; (case F9z => k_asm); (case N9z => k_asm); (case a9z => rfl); (case b9z => rfl); k_whole; intro h' m' F' N'; (try k_sweep))))
  k_with "ktr_room" => (first | exact rmK (k := 0) (by assumption) (by decide) | exact rmK (k := 1) (by assumption) (by decide) | exact rmK (k := 2) (by assumption) (by decide) | exact rmK (k := 3) (by assumption) (by decide) | exact rmK (k := 4) (by assumption) (by decide) | exact rmK (k := 5) (by assumption) (by decide) | exact rmK (k := 6) (by assumption) (by decide) | exact rmK (k := 7) (by assumption) (by decide) | exact rmK (k := 8) (by assumption) (by decide) | exact rmK (k := 9) (by assumption) (by decide))
  k_with "ktr_units" => (first | exact rmK (k := 0) (by assumption) (by decide) | exact rmK (k := 1) (by assumption) (by decide) | exact rmK (k := 2) (by assumption) (by decide) | exact rmK (k := 3) (by assumption) (by decide) | exact rmK (k := 4) (by assumption) (by decide) | exact rmK (k := 5) (by assumption) (by decide) | exact rmK (k := 6) (by assumption) (by decide) | exact rmK (k := 7) (by assumption) (by decide) | exact rmK (k := 8) (by assumption) (by decide) | exact rmK (k := 9) (by assumption) (by decide) | exact rmK (k := 10) (by assumption) (by decide) | exact rmK (k := 12) (by assumption) (by decide) | exact rmK (k := 13) (by assumption) (by decide) | exact rmK (k := 14) (by assumption) (by decide) | exact rmK (k := 15) (by assumption) (by decide) | exact rmK (k := 16) (by assumption) (by decide) | exact rmK (k := 17) (by assumption) (by decide) | exact rmK (k := 18) (by assumption) (by decide) | exact rmK (k := 20) (by assumption) (by decide) | exact rmK (k := 21) (by assumption) (by decide) | exact rmK (k := 22) (by assumption) (by decide) | exact rmK (k := 23) (by assumption) (by decide) | exact rmK (k := 24) (by assumption) (by decide) | exact rmK (k := 25) (by assumption) (by decide) | exact rmK (k := 26) (by assumption) (by decide) | exact rmK (k := 30) (by assumption) (by decide) | exact rmK (k := 32) (by assumption) (by decide) | exact rmK (k := 33) (by assumption) (by decide) | exact rmK (k := 34) (by assumption) (by decide) | exact rmK (k := 36) (by assumption) (by decide) | exact rmK (k := 64) (by assumption) (by decide) | exact rmK (k := 65) (by assumption) (by decide) | exact rmK (k := 66) (by assumption) (by decide) | exact rmK (k := 68) (by assumption) (by decide))
  trivial
theorem rows_LawP4_0 : True := by
  k_with "k_ne" => ((refine neN ?_; (try dsimp only); first | assumption | (apply Ne.symm; assumption)))
  k_with "binaryOp Mult int int" => ((k_here; (with_reducible show wpAny _ _ (binaryOp Operator.Mult (Value.int _ _) (Value.int _ _)) _ _ _); (refine mulii_cl (by omega) (by omega) ?_); (try dsimp only)))
  k_with "subscriptTail" => ((k_here; (with_reducible show wpAny _ _ (subscriptTail _ _ (Value.ref _) (Value.int _ _)) _ _ _); (rename IntsAre _ _ => lI9); (rename _ = _ :: _ => lE9); (try dsimp only); k_dflt (refine' item0 ?N9z ?m9z lI9 lE9 ?e9z ?_ ?s9z; (case N9z => k_asm); (case m9z => k_mem); (case e9z => rfl); (case s9z => with_unfolding_all rfl); k_whole); intro t9; (try dsimp only)))
  k_with "k_steps" => (repeat' (first | ((with_reducible rename (_ ∧ _) ∧ _ => lz9); obtain ⟨⟨_, _, _⟩, ⟨_, _, _⟩, ⟨_, _, _⟩, ⟨_, _, _⟩⟩ := lz9) | (k_unfold; (try dsimp only)) | (k_end; wrow_close) | ((with_reducible show wpAny _ _ (subscriptTail _ _ _ _) _ _ _); walk1) | ((try dsimp only); walk1) | walk1 | (leave1; walk_say "STEP leave1"; try dsimp only) | fail "no step"))
  trivial
section
variable {w : World} {mean : ExcName → Option Value} {mg mb : Str → Option Value} {dp un : Nat} {gd : Option (List Code)} {a : Addr} {ccd : Value} {outer : List Env} {A₀ : Around} {base h₀ hV : Heap} {L : Addr} {s : Shared} {Q : Flow → Shared → Prop} {E : Value → Shared → Prop} {cF cO c1 cC : Addr}
  (V : LooseAre looseV mg hV) (hB : Below A₀ base outer h₀) (KX : (hd.heap_39 w.params).In h₀) (T : Top hd.view_39 (looseW hd.view_39 looseN) mean mg mb h₀)
  (hdp : dp + 9 < recursionLimit) (hun : un + 30 < cLine)
include V hB KX T hdp hun
theorem law_p4 {l la : Addr} {c f e1 e2 r : Int} {t0 t1 t2 t3 tr : Tok} {oF oO o1 oC : Obj} (b1 : 2 ≤ c) (b2 : c ≤ 10) (b3 : -(2 * c) ≤ e1) (b4 : e1 < 2 * c) (b5 : 0 ≤ e2) (b6 : e2 < 3 * c) (hR9 : Rd c (e1 + e2) r) (F : Fr h₀ L s.heap (fm [(S "rounds", .int r tr), (S "numbers", .ref la), (S "script", .ref l)]))
    (N : News h₀ L s.heap [(cF, oF), (cO, oO), (c1, o1), (cC, oC)])
    (hdist : @LT.lt Nat _ cO cF ∧ @LT.lt Nat _ c1 cO ∧ @LT.lt Nat _ cC c1) (dF : oF.data = .cell (some (.int f t0))) (dO : oO.data = .cell (some (.int e2 t1))) (d1 : o1.data = .cell (some (.int e1 t2))) (dC : oC.data = .cell (some (.int c t3)))
    (hret : ∀ (D : Addr) (ys : List Value) (ms : List Int) (h' : Heap) (tk' : Nat), Mt c (e1 + e2) e1 r ms → IntsAre ys ms → Fr h₀ L h' (fm [(S "meets", .ref D), (S "rounds", .int r tr), (S "numbers", .ref la), (S "script", .ref l)]) →
      News h₀ L h' [(D, LCg.lst ys), (cF, oF), (cO, oO), (c1, o1), (cC, oC)] → Q .next { s with heap := h', toks := tk' }) :
    wpAny (model Challenge.rw_pg0104_01.row.prog w) (ktrTop dp un gd (S "law") lawS L a ccd (lawCl cF cO c1 cC) outer) (execs ((lawRec.body.drop 6).take 1) (envX (S "law") lawS L a ccd (lawCl cF cO c1 cC))) Q E s := by
  revert KX; k_fill; intro KX
  dsimp only [lawRec, dOf, List.take, List.drop]
  have q1 := hR9.h1
  have q2 := hR9.h2
  k_steps
  exact hret _ _ _ _ _ (meets_ex (by omega)) (by assumption) (by assumption) (by assumption)
end
end Mine
end
section
open PySem PySem.W PySem.Spec PySem.Calls PyProof.Rows
namespace Mine
theorem rows_LawP5 : True := by
  k_with_none
  w_top off
  k_with "storeName" => ((k_here; k_dflt (refine' storeL9 ?F9z ?N9z ?_ ?a9z ?b9z; (case F9z => k_asm); (case N9z => k_asm); (case a9z => rfl); (case b9z => rfl); k_whole; intro h' m' F' N'; (try k_sweep))))
  k_with "ktr_room" => (first | exact rmK (k := 0) (by assumption) (by decide) | exact rmK (k := 1) (by assumption) (by decide) | exact rmK (k := 2) (by assumption) (by decide) | exact rmK (k := 3) (by assumption) (by decide) | exact rmK (k := 4) (by assumption) (by decide) | exact rmK (k := 5) (by assumption) (by decide) | exact rmK (k := 6) (by assumption) (by decide) | exact rmK (k := 7) (by assumption) (by decide) | exact rmK (k := 8) (by assumption) (by decide) | exact rmK (k := 9) (by assumption) (by decide))
  k_with "ktr_units" => (first | exact rmK (k := 0) (by assumption) (by decide) | exact rmK (k := 1) (by assumption) (by decide) | exact rmK (k := 2) (by assumption) (by decide) | exact rmK (k := 3) (by assumption) (by decide) | exact rmK (k := 4) (by assumption) (by decide) | exact rmK (k := 5) (by assumption) (by decide) | exact rmK (k := 6) (by assumption) (by decide) | exact rmK (k := 7) (by assumption) (by decide) | exact rmK (k := 8) (by assumption) (by decide) | exact rmK (k := 9) (by assumption) (by decide) | exact rmK (k := 10) (by assumption) (by decide) | exact rmK (k := 12) (by assumption) (by decide) | exact rmK (k := 13) (by assumption) (by decide) | exact rmK (k := 14) (by assumption) (by decide) | exact rmK (k := 15) (by assumption) (by decide) | exact rmK (k := 16) (by assumption) (by decide) | exact rmK (k := 17) (by assumption) (by decide) | exact rmK (k := 18) (by assumption) (by decide) | exact rmK (k := 20) (by assumption) (by decide) | exact rmK (k := 21) (by assumption) (by decide) | exact rmK (k := 22) (by assumption) (by decide) | exact rmK (k := 23) (by assumption) (by decide) | exact rmK (k := 24) (by assumption) (by decide) | exact rmK (k := 25) (by assumption) (by decide) | exact rmK (k := 26) (by assumption) (by decide) | exact rmK (k := 30) (by assumption) (by decide) | exact rmK (k := 32) (by assumption) (by decide) | exact rmK (k := 33) (by assumption) (by decide) | exact rmK (k := 34) (by assumption) (by decide) | exact rmK (k := 36) (by assumption) (by decide) | exact rmK (k := 64) (by assumption) (by decide) | exact rmK (k := 65) (by assumption) (by decide) | exact rmK (k := 66) (by assumption) (by decide) | exact rmK (k := 68) (by assumption) (by decide))
  trivial
theorem rows_LawP5_0 : True := by
  k_with "binaryOp Mult int int" => ((k_here; (with_reducible show wpAny _ _ (binaryOp Operator.Mult (Value.int _ _) (Value.int _ _)) _ _ _); (refine mulii_cl (by omega) (by omega) ?_); (try dsimp only)))
  k_with "subscriptTail" => ((k_here; (with_reducible show wpAny _ _ (subscriptTail _ _ (Value.ref _) (Value.int _ _)) _ _ _); (rename IntsAre _ _ => lI9); (rename _ = _ :: _ => lE9); (try dsimp only); k_dflt (refine' item0 ?N9z ?m9z lI9 lE9 ?e9z ?_ ?s9z; (case N9z => k_asm); (case m9z => k_mem); (case e9z => rfl); (case s9z => with_unfolding_all rfl); k_whole); intro t9; (try dsimp only)))
  k_with "compareOp NotEq ref ref" => ((k_here; (with_reducible show wpAny _ _ (compareOp CmpOp.NotEq (Value.ref _) (Value.ref _)) _ _ _); (rename IntsAre _ _ => lI9); (try dsimp only); k_dflt (refine' neNil ?N9z ?m9z ?m'9z lI9 ?u9z rfl ?_; (case N9z => k_asm); (case m9z => k_mem); (case m'9z => k_mem); (case u9z => ktr_units); k_whole); (try dsimp only)))
  k_with "k_steps" => (repeat' (first | (k_unfold; (try dsimp only)) | (k_end; wrow_close) | ((with_reducible show wpAny _ _ (subscriptTail _ _ _ _) _ _ _); walk1) | ((try dsimp only); walk1) | walk1 | (leave1; walk_say "STEP leave1"; try dsimp only) | fail "no step"))
  trivial
inductive TF (r : Int) : List Int → Int → Int → Prop where
  | none : TF r [] (4 * r) (6 * r)
  | some (q : Int) (zs : List Int) : TF r (q :: zs) (2 * r) (2 * r + 2 * q + 1)
section
variable {w : World} {mean : ExcName → Option Value} {mg mb : Str → Option Value} {dp un : Nat} {gd : Option (List Code)} {a : Addr} {ccd : Value} {outer : List Env} {A₀ : Around} {base h₀ hV : Heap} {L : Addr} {s : Shared} {Q : Flow → Shared → Prop} {E : Value → Shared → Prop} {cF cO c1 cC : Addr}
  (V : LooseAre looseV mg hV) (hB : Below A₀ base outer h₀) (KX : (hd.heap_39 w.params).In h₀) (T : Top hd.view_39 (looseW hd.view_39 looseN) mean mg mb h₀)
  (hdp : dp + 9 < recursionLimit) (hun : un + 100 < cLine)
include V hB KX T hdp hun
theorem law_p5 {l la DM : Addr} {c f e1 e2 r : Int} {t0 t1 t2 t3 tr : Tok} {ys : List Value} {ms : List Int} {oF oO o1 oC : Obj} (b1 : 2 ≤ c) (b2 : c ≤ 10) (hR9 : Rd c (e1 + e2) r) (hM9 : Mt c (e1 + e2) e1 r ms) (hI9 : IntsAre ys ms)
    (F : Fr h₀ L s.heap (fm [(S "meets", .ref DM), (S "rounds", .int r tr), (S "numbers", .ref la), (S "script", .ref l)]))
    (N : News h₀ L s.heap [(DM, LCg.lst ys), (cF, oF), (cO, oO), (c1, o1), (cC, oC)])
    (hret : ∀ (th fo : Int) (u1 u2 u3 : Tok) (h' : Heap) (tk' : Nat) (u : Str → Option Value), TF r ms th fo → Fr h₀ L h' (fmu [(S "size", .int (fo + 3) u3), (S "fourth", .int fo u2), (S "third", .int th u1)] u) →
      News h₀ L h' [(cF, oF), (cO, oO), (c1, o1), (cC, oC)] → Q .next { s with heap := h', toks := tk' }) :
    wpAny (model Challenge.rw_pg0104_01.row.prog w) (ktrTop dp un gd (S "law") lawS L a ccd (lawCl cF cO c1 cC) outer) (execs ((lawRec.body.drop 7).take 4) (envX (S "law") lawS L a ccd (lawCl cF cO c1 cC))) Q E s := by
  revert KX; k_fill; intro KX
  dsimp only [lawRec, dOf, List.take, List.drop]
  have q1 := hR9.h1
  have q2 := hR9.h2
  cases hM9 <;> k_steps
  · rename News _ _ _ _ => N9
    exact hret _ _ _ _ _ _ _ _ TF.none (by assumption) (newsSub (List.Sublist.cons _ (List.Sublist.cons _ (List.Sublist.refl _))) N9)
  · rename _ = [] => h9; cases h9
  · rename News _ _ _ _ => N9
    exact hret _ _ _ _ _ _ _ _ (TF.some _ _) (by assumption) (newsSub (List.Sublist.cons _ (List.Sublist.cons _ (List.Sublist.refl _))) N9)
end
end Mine
end
section
open PySem PySem.W PySem.Spec PySem.Calls PyProof.Rows
namespace Mine
open Fl

noncomputable def textOf (c f o1 o2 : Int) : Nat → Str
  | 0 => Str.ofString ""
  | t + 1 => textOf c f o1 o2 t ++ Str.ofString (toString ((placeZ f o1 o2 t).fmod c))

noncomputable abbrev tupC (k : Col) (t1 t2 t3 : Tok) : Obj := tup3 k.1 t1 k.2.1 t2 k.2.2 t3

noncomputable def WEnd (h₀ : Heap) (L : Addr) (x : Str) (stored : List Str) (m₀ : Str → Option Value) (CL : Addr) (vs : List Value) (txt : Str) (k : Col) (tl own : List (Addr × Obj)) (s₁ s₂ : Shared) : Prop :=
  ∃ (h' : Heap) (tk' : Nat) (m' : Str → Option Value) (news' : List (Addr × Obj)) (tt' : Tok) (cap' : Nat) (ad' : Addr) (b1 b2 b3 : Tok),
    s₂ = { s₁ with heap := h', toks := tk' } ∧ Fr h₀ L h' m' ∧ News h₀ L h' news' ∧ m' (Str.ofString "text") = some (.str txt tt') ∧ (∀ z, z ≠ x → z ≠ Str.ofString "text" → stored.contains z = false → m' z = m₀ z) ∧
    (CL, W.listOf (vs ++ [Value.ref ad']).toArray cap') ∈ news' ∧ (ad', tupC k b1 b2 b3) ∈ news' ∧ ad' ≠ CL ∧ (∀ p ∈ own, p.1 ≠ ad') ∧ (∀ p ∈ tl ++ own, p ∈ news')
noncomputable def WPost (h₀ : Heap) (L : Addr) (x : Str) (stored : List Str) (m₀ : Str → Option Value) (CL : Addr) (vs : List Value) (txt : Str) (k : Col) (tl own : List (Addr × Obj)) (s₁ : Shared) (Q : Flow → Shared → Prop) (f : Flow) (s₂ : Shared) : Prop :=
  match f with
  | .ret v => Q (.ret v) s₂
  | .brk => Q .next s₂
  | _ => WEnd h₀ L x stored m₀ CL vs txt k tl own s₁ s₂

section
variable {prog : Program} {w : World} {A : Around} {E : Value → Shared → Prop} {s : Shared} {env : Env} {h₀ : Heap} {x : Str} {body : List Stmt} {Q : Flow → Shared → Prop}

theorem mapForm {m' m₀ : Str → Option Value} {x : Str} {v : Option Value} {stored : List Str} {txt : Str} {tt : Tok} (h1 : m' (Str.ofString "text") = some (.str txt tt)) (h2 : ∀ z, z ≠ x → z ≠ Str.ofString "text" → stored.contains z = false → m' z = m₀ z) :
    (fun y => if y = x then v else m' y) = fun y => if y = x then v else if y = Str.ofString "text" then some (.str txt tt) else if stored.contains y = true then m' y else m₀ y := by
  funext z
  by_cases c1 : z = x
  · simp [c1]
  · simp only [if_neg c1]
    by_cases c2 : z = Str.ofString "text"
    · subst c2; simp [h1]
    · simp only [if_neg c2]
      cases c3 : stored.contains z with
      | true => simp
      | false => simp only [Bool.false_eq_true, if_false]; exact h2 z c1 c2 c3

theorem mapForm2 {m' m₀ : Str → Option Value} {x : Str} {stored : List Str} {txt : Str} {tt : Tok} (h1 : m' (Str.ofString "text") = some (.str txt tt)) (h2 : ∀ z, z ≠ x → z ≠ Str.ofString "text" → stored.contains z = false → m' z = m₀ z) :
    m' = fun y => if y = x then m' y else if y = Str.ofString "text" then some (.str txt tt) else if stored.contains y = true then m' y else m₀ y := by
  funext z
  by_cases c1 : z = x
  · simp [c1]
  · simp only [if_neg c1]
    by_cases c2 : z = Str.ofString "text"
    · subst c2; simp [h1]
    · simp only [if_neg c2]
      cases c3 : stored.contains z with
      | true => simp
      | false => simp only [Bool.false_eq_true, if_false]; exact h2 z c1 c2 c3

noncomputable def WJ (c f o1 o2 : Int) (x : Str) (stored : List Str) (m₀ : Str → Option Value) (CL : Addr) (news : List (Addr × Obj)) (i : Nat) (m' : Str → Option Value) (nx : List (Addr × Obj)) : Prop :=
  ∃ (tt : Tok) (vs : List Value) (cap : Nat) (tl : List (Addr × Obj)), m' (Str.ofString "text") = some (.str (textOf c f o1 o2 i) tt) ∧ (∀ z, z ≠ x → z ≠ Str.ofString "text" → stored.contains z = false → m' z = m₀ z) ∧
    nx = (CL, W.listOf vs.toArray cap) :: tl ∧ (∀ p ∈ tl, p.1 ≠ CL) ∧ (∀ p ∈ news, p ∈ tl) ∧ vs.length = i + 1 ∧
    ∀ t, t ≤ i → ∃ ad a1 a2 a3, vs[t]? = some (.ref ad) ∧ (ad, tupC (colAt c f o1 o2 t) a1 a2 a3) ∈ tl

theorem loopW {r : Addr} {n : Nat} {t₀ u₀ v₀ : Tok} {m₀ : Str → Option Value} {news : List (Addr × Obj)} {CL D : Addr} {cap₀ : Nat} {c f o1 o2 : Int} {d1 d2 d3 tt0 : Tok} (P : Par c f o1 o2) (stored : List Str)
    (hh : A.handled = none) (hr : IsRange s.heap r 0 (n : Int) 1 t₀ u₀ v₀) (hn : n ≤ 66) (F : Fr h₀ env.locals s.heap m₀)
    (N : News h₀ env.locals s.heap ((CL, W.listOf #[Value.ref D] cap₀) :: (D, tupC (colAt c f o1 o2 0) d1 d2 d3) :: news)) (hne : D ≠ CL) (hne2 : ∀ p ∈ news, p.1 ≠ CL) (ht : m₀ (Str.ofString "text") = some (.str (Str.ofString "") tt0))
    (turn : ∀ (i : Nat) (t : Tok) (u : Str → Option Value) (tt : Tok) (vs : List Value) (cap : Nat) (ad : Addr) (a1 a2 a3 : Tok) (tl own : List (Addr × Obj)) (h : Heap) (tk : Nat), i < n → vs.length = i + 1 → vs[i]? = some (.ref ad) → ad ≠ CL → OwnOff (tl ++ own) [CL] →
      Fr h₀ env.locals h (fun y => if y = x then some (.int (i : Int) t) else if y = Str.ofString "text" then some (.str (textOf c f o1 o2 i) tt) else if stored.contains y = true then u y else m₀ y) →
      News h₀ env.locals h ((CL, W.listOf vs.toArray cap) :: (ad, tupC (colAt c f o1 o2 i) a1 a2 a3) :: (tl ++ own)) →
      wpAny (model prog w) A (execs body env) (WPost h₀ env.locals x stored m₀ CL vs (textOf c f o1 o2 (i + 1)) (colAt c f o1 o2 (i + 1)) tl own { s with heap := h, toks := tk } Q) E { s with heap := h, toks := tk })
    (done : ∀ (u : Str → Option Value) (tt : Tok) (vs : List Value) (cap : Nat) (tl : List (Addr × Obj)) (h : Heap) (tk : Nat), vs.length = n + 1 → (∀ p ∈ news, p ∈ tl) → (∀ t, t ≤ n → ∃ ad a1 a2 a3, vs[t]? = some (.ref ad) ∧ (ad, tupC (colAt c f o1 o2 t) a1 a2 a3) ∈ tl) →
      Fr h₀ env.locals h (fun y => if y = x then u y else if y = Str.ofString "text" then some (.str (textOf c f o1 o2 n) tt) else if stored.contains y = true then u y else m₀ y) →
      News h₀ env.locals h ((CL, W.listOf vs.toArray cap) :: tl) → Q .next { s with heap := h, toks := tk }) :
    wpAny (model prog w) A (pyIter (.ref r)) (fun it s₂ => LoopAtV prog w A h₀ env x body Q E it s₂) E s := by
  refine tbr_invG (n := n) (WJ c f o1 o2 x stored m₀ CL ((D, tupC (colAt c f o1 o2 0) d1 d2 d3) :: news)) hh hr (small_one (by (first | lia | omega)) (by (first | lia | omega)) (by (first | lia | omega)) (by (first | lia | omega))) (by simp [Builtin.Range.rangeSize]; (first | lia | omega)) F N ?_ ?_ ?_
  · refine ⟨tt0, [.ref D], cap₀, _, ht, fun _ _ _ _ => rfl, rfl, ?_, fun _ h => h, rfl, ?_⟩
    · intro p hp
      rcases List.mem_cons.mp hp with rfl | hp
      · exact hne
      · exact hne2 p hp
    · intro t ht'
      have : t = 0 := by (first | lia | omega)
      subst this
      exact ⟨D, d1, d2, d3, rfl, List.mem_cons_self⟩
  · intro i k t m₁ nx h tk own hk hoff hI F₁ N₁
    refine hidG fun hn => ?_
    obtain ⟨tt, vs, cap, tl, hm1, hm2, rfl, hcl, hsub, hlen, hcol⟩ := hI
    have hin : i < n := by
      have := List.getElem?_eq_some_iff.mp hk
      obtain ⟨hlt, _⟩ := this
      simpa [rangeKs] using hlt
    have hki : k = (i : Int) := by
      simp [rangeKs, hin] at hk
      (first | lia | omega)
    subst hki
    obtain ⟨ad, a1, a2, a3, had, hmem⟩ := hcol i (Nat.le_refl _)
    refine hn.ex ?_
    clear hn
    rw [mapForm hm1 hm2] at F₁
    have hadne : ad ≠ CL := hcl _ hmem
    have hOO : OwnOff (tl ++ own) [CL] := by
      intro p hp b hb
      rw [List.mem_singleton.mp hb]
      rcases List.mem_append.mp hp with hp | hp
      · exact hcl p hp
      · exact hoff p hp _ List.mem_cons_self
    have N₂ : News h₀ env.locals h ((CL, W.listOf vs.toArray cap) :: (ad, tupC (colAt c f o1 o2 i) a1 a2 a3) :: (tl ++ own)) := by
      intro p hp
      rcases List.mem_cons.mp hp with rfl | hp
      · exact N₁ _ List.mem_cons_self
      · rcases List.mem_cons.mp hp with rfl | hp
        · exact N₁ _ (List.mem_cons_of_mem _ (List.mem_append_left _ hmem))
        · exact N₁ _ (List.mem_cons_of_mem _ hp)
    refine wpAny_mono (turn i t m₁ tt vs cap ad a1 a2 a3 tl own h tk hin hlen had hadne hOO F₁ N₂) (fun fl s₂ p => ?_) fun _ _ e => e
    have fin : WEnd h₀ env.locals x stored m₀ CL vs (textOf c f o1 o2 (i + 1)) (colAt c f o1 o2 (i + 1)) tl own { s with heap := h, toks := tk } s₂ → TbEnd h₀ env.locals (WJ c f o1 o2 x stored m₀ CL ((D, tupC (colAt c f o1 o2 0) d1 d2 d3) :: news) (i + 1)) own { s with heap := h, toks := tk } s₂ := by
      intro hE
      refine hidG fun hn => ?_
      obtain ⟨h', tk', m', news', tt', cap', ad', b1, b2, b3, e, F', N', q1, q2, q3, q4, q5, q6, q7⟩ := hE
      refine hn.ex ?_
      clear hn
      refine ⟨h', tk', m', news', (CL, W.listOf (vs ++ [Value.ref ad']).toArray cap') :: (ad', tupC (colAt c f o1 o2 (i + 1)) b1 b2 b3) :: tl, e, F', N', ?_, fun p hp => q7 p (List.mem_append_right _ hp), ?_, ?_⟩
      · intro p hp
        rcases List.mem_cons.mp hp with rfl | hp
        · exact q3
        · rcases List.mem_cons.mp hp with rfl | hp
          · exact q4
          · exact q7 p (List.mem_append_left _ hp)
      · intro p hp q hq
        rcases List.mem_cons.mp hq with rfl | hq
        · exact hoff p hp (CL, W.listOf vs.toArray cap) List.mem_cons_self
        · rcases List.mem_cons.mp hq with rfl | hq
          · exact q6 p hp
          · exact hoff p hp q (List.mem_cons_of_mem _ hq)
      · refine ⟨tt', vs ++ [Value.ref ad'], cap', _, q1, q2, rfl, ?_, ?_, by simp [hlen], ?_⟩
        · intro p hp
          rcases List.mem_cons.mp hp with rfl | hp
          · exact q5
          · exact hcl p hp
        · intro p hp; exact List.mem_cons_of_mem _ (hsub p hp)
        · intro t' ht'
          by_cases c : t' ≤ i
          · obtain ⟨ad2, x1, x2, x3, y1, y2⟩ := hcol t' c
            exact ⟨ad2, x1, x2, x3, by rw [List.getElem?_append_left (by (first | lia | omega))]; exact y1, List.mem_cons_of_mem _ y2⟩
          · have : t' = i + 1 := by (first | lia | omega)
            subst this
            exact ⟨ad', b1, b2, b3, by rw [List.getElem?_append_right (by (first | lia | omega)), hlen]; simp, List.mem_cons_self⟩
    cases fl with
    | ret v => exact p
    | brk => exact p
    | next => exact fin p
    | cont => exact fin p
  · rintro m₁ nx h tk ⟨tt, vs, cap, tl, hm1, hm2, rfl, hcl, hsub, hlen, hcol⟩ F₁ N₁
    rw [mapForm2 hm1 hm2] at F₁
    exact done m₁ tt vs cap tl h tk hlen (fun p hp => hsub p (List.mem_cons_of_mem _ hp)) hcol F₁ N₁
end
end Mine
end
section
open PySem PySem.W PySem.Spec PySem.Calls PyProof.Rows
namespace Mine
theorem rows_WalkC : True := by
  k_with_none
  w_top off
  k_with "storeName" => ((k_here; k_dflt (refine' storeL9 ?F9z ?N9z ?_ ?a9z ?b9z; (case F9z => k_asm); (case N9z => k_asm); (case a9z => rfl); (case b9z => rfl); k_whole; intro h' m' F' N'; (try k_sweep))))
  k_with "ktr_room" => (first | exact rmK (k := 0) (by assumption) (by decide) | exact rmK (k := 1) (by assumption) (by decide) | exact rmK (k := 2) (by assumption) (by decide) | exact rmK (k := 3) (by assumption) (by decide) | exact rmK (k := 4) (by assumption) (by decide) | exact rmK (k := 5) (by assumption) (by decide) | exact rmK (k := 6) (by assumption) (by decide) | exact rmK (k := 7) (by assumption) (by decide) | exact rmK (k := 8) (by assumption) (by decide) | exact rmK (k := 9) (by assumption) (by decide))
  k_with "ktr_units" => (first | exact rmK (k := 0) (by assumption) (by decide) | exact rmK (k := 1) (by assumption) (by decide) | exact rmK (k := 2) (by assumption) (by decide) | exact rmK (k := 3) (by assumption) (by decide) | exact rmK (k := 4) (by assumption) (by decide) | exact rmK (k := 5) (by assumption) (by decide) | exact rmK (k := 6) (by assumption) (by decide) | exact rmK (k := 7) (by assumption) (by decide) | exact rmK (k := 8) (by assumption) (by decide) | exact rmK (k := 9) (by assumption) (by decide) | exact rmK (k := 10) (by assumption) (by decide) | exact rmK (k := 12) (by assumption) (by decide) | exact rmK (k := 13) (by assumption) (by decide) | exact rmK (k := 14) (by assumption) (by decide) | exact rmK (k := 15) (by assumption) (by decide) | exact rmK (k := 16) (by assumption) (by decide) | exact rmK (k := 17) (by assumption) (by decide) | exact rmK (k := 18) (by assumption) (by decide) | exact rmK (k := 20) (by assumption) (by decide) | exact rmK (k := 21) (by assumption) (by decide) | exact rmK (k := 22) (by assumption) (by decide) | exact rmK (k := 23) (by assumption) (by decide) | exact rmK (k := 24) (by assumption) (by decide) | exact rmK (k := 25) (by assumption) (by decide) | exact rmK (k := 26) (by assumption) (by decide) | exact rmK (k := 30) (by assumption) (by decide) | exact rmK (k := 32) (by assumption) (by decide) | exact rmK (k := 33) (by assumption) (by decide) | exact rmK (k := 34) (by assumption) (by decide) | exact rmK (k := 36) (by assumption) (by decide) | exact rmK (k := 64) (by assumption) (by decide) | exact rmK (k := 65) (by assumption) (by decide) | exact rmK (k := 66) (by assumption) (by decide) | exact rmK (k := 68) (by assumption) (by decide))
  trivial
open Fl
theorem fmod2 (i : Nat) : ((i : Int).fmod 2 = 0 ∧ i % 2 = 0) ∨ ((i : Int).fmod 2 = 1 ∧ i % 2 = 1) := by
  rw [Int.fmod_eq_emod_of_nonneg _ (by decide)]
  omega
theorem item_cl {prog : Program} {w : World} {A : Around} {E : Value → Shared → Prop} {s : Shared} {h₀ : Heap} {L : Addr} {news : List (Addr × Obj)} {value slice : PySem.Expr} {l : Addr} {vs : List Value} {cap i : Nat} {u : Tok} {v : Value} {Q : Value → Shared → Prop}
    (N : News h₀ L s.heap news) (hm : (l, W.listOf vs.toArray cap) ∈ news) (hx : vs[i]? = some v) (hi : i ≤ 70) (h : Q v s)
    (hs : subscripted slice false (.ref l) (.int (i : Int) u) = operate [.ref l, .int (i : Int) u] (getItem (.ref l) (.int (i : Int) u)) := by with_unfolding_all rfl) :
    wpAny (model prog w) A (subscriptTail value slice (.ref l) (.int (i : Int) u)) Q E s := by
  have hl : s.heap.IsList l vs.toArray := ⟨_, (N _ hm).1, rfl, cap, rfl⟩
  exact tail_any hl.typeIs slot_list_getitem.lookup (wpAny_getItem_list hl (by omega) (by omega) (by simpa using hx) h) hs

theorem ite_kT {b : Bool} {P Q : Prop} (hb : b = true) (h : P) : if b = true then P else Q := by rw [if_pos hb]; exact h
theorem ite_kF {b : Bool} {P Q : Prop} (hb : b = false) (h : Q) : if b = true then P else Q := by rw [if_neg (by rw [hb]; decide)]; exact h
noncomputable def dig (c f o1 o2 : Int) (t : Nat) : Int := (placeZ f o1 o2 t).fmod c
structure PlaceF (c f o1 o2 : Int) (t : Nat) (x : UInt64) : Prop where
  h1 : Float64.isNaN x = false
  h2 : Float64.isInf x = false
  h3 : 0 ≤ Flt.toInt Float64.nearestOf x
  h4 : Flt.toInt Float64.nearestOf x ≤ 10
  h5 : (Flt.toInt Float64.nearestOf x).fmod c = dig c f o1 o2 t
  h6 : nearF x (Float64.ofInt (Flt.toInt Float64.nearestOf x)) = true
theorem placeR {c f o1 o2 : Int} (P : Par c f o1 o2) {t : Nat} (ht : t ≤ 66) :
    (Float64.cmp 0 (hueF (colAt c f o1 o2 t).1 (colAt c f o1 o2 t).2.1 (colAt c f o1 o2 t).2.2) == some .lt || Float64.cmp 0 (hueF (colAt c f o1 o2 t).1 (colAt c f o1 o2 t).2.1 (colAt c f o1 o2 t).2.2) == some .eq) = true ∧
    (Float64.cmp (hueF (colAt c f o1 o2 t).1 (colAt c f o1 o2 t).2.1 (colAt c f o1 o2 t).2.2) 4607182418800017408 == some .lt || Float64.cmp (hueF (colAt c f o1 o2 t).1 (colAt c f o1 o2 t).2.1 (colAt c f o1 o2 t).2.2) 4607182418800017408 == some .eq) = true ∧
    PlaceF c f o1 o2 t (Float64.mul (hueF (colAt c f o1 o2 t).1 (colAt c f o1 o2 t).2.1 (colAt c f o1 o2 t).2.2) (Float64.ofInt c)) := by
  obtain ⟨h1, h2, h3, h4, h5, h6, h7, h8⟩ := place_f P ht
  exact ⟨h2, h3, notNaN h4, notInf h4, h5, h6, h7, h8⟩
theorem round_cl {prog : Program} {w : World} {A : Around} {E : Value → Shared → Prop} {s : Shared} {c f o1 o2 : Int} {i : Nat} {x : UInt64} {t : Tok} {Q : Value → Shared → Prop} (hA : A.handled = none) (PF : PlaceF c f o1 o2 i x)
    (h : ∀ p : Int, 0 ≤ p → p ≤ 10 → p.fmod c = dig c f o1 o2 i → nearF x (Float64.ofInt p) = true → Q (.int p s.toks) { s with toks := s.toks + 1 }) :
    wpAny (model prog w) A (call (.builtin "round") [.float x t]) Q E s :=
  Flt.call_round_float hA (fun e => absurd e (by rw [PF.h1]; decide)) (fun e => absurd e (by rw [PF.h2]; decide)) fun _ => h _ PF.h3 PF.h4 PF.h5 PF.h6
theorem rows_WalkC_0 : True := by
  k_with "k_ne" => ((refine neN ?_; (try dsimp only); first | assumption | exact Nat.ne_of_gt (And.left (by assumption)) | exact Nat.ne_of_gt (And.left (And.right (by assumption))) | exact Nat.ne_of_lt (And.left (by assumption)) | exact Nat.ne_of_lt (And.left (And.right (by assumption)))))
  k_with "call builtin:round" => (((with_reducible show wpAny _ _ (call (Value.builtin _) [Value.float _ _]) _ _ _); (rename PlaceF _ _ _ _ _ _ => lQ'); (with_unfolding_all refine' round_cl ?ka9z lQ' ?_); (case ka9z => with_unfolding_all rfl); clear lQ'; intro p9 hp1 hp2 hp3 hp4; (try dsimp only); (try k_fold)))
  trivial
theorem mulfi_cl {prog : Program} {w : World} {A : Around} {E : Value → Shared → Prop} {s : Shared} {x : UInt64} {n : Int} {t u : Tok} {Q : Value → Shared → Prop} (h1 : -100 ≤ n) (h2 : n ≤ 100)
    (h : Q (.float (Float64.mul x (Float64.ofInt n)) s.toks) { s with toks := s.toks + 1 }) : wpAny (model prog w) A (binaryOp .Mult (.float x t) (.int n u)) Q E s :=
  mul_fi_fits (Nat.lt_of_le_of_lt (show n.natAbs ≤ 100 by omega) (by decide +kernel)) h
theorem rows_WalkC_1 : True := by
  k_with "binaryOp Mult float int" => (((with_reducible show wpAny _ _ (binaryOp Operator.Mult (Value.float _ _) (Value.int _ _)) _ _ _); (refine mulfi_cl (by first | assumption | omega) (by first | assumption | omega) ?_); (try dsimp only)))
  trivial
theorem dig_bd {c f o1 o2 : Int} (P : Par c f o1 o2) (t : Nat) : 0 ≤ dig c f o1 o2 t ∧ dig c f o1 o2 t < 10 := by
  have := P.hc1; have := P.hc2
  have a := Int.fmod_nonneg_of_pos (placeZ f o1 o2 t) (show 0 < c by omega)
  have b := Int.fmod_lt_of_pos (placeZ f o1 o2 t) (show 0 < c by omega)
  unfold dig
  omega
theorem digStr {d : Int} (h0 : 0 ≤ d) (h1 : d < 10) : Str.ofString (toString d) = ⟨#[48 + d.toNat]⟩ := by
  obtain ⟨n, rfl⟩ := Int.eq_ofNat_of_zero_le h0
  exact (by decide +kernel : ∀ n : Nat, n < 10 → Str.ofString (toString (n : Int)) = ⟨#[48 + (n : Int).toNat]⟩) n (Int.ofNat_lt.mp h1)
theorem digLen {c f o1 o2 : Int} (P : Par c f o1 o2) {t : Nat} (_ht : t ≤ 66) : (Str.ofString (toString (dig c f o1 o2 t))).length = 1 := by
  obtain ⟨a, b⟩ := dig_bd P t
  rw [digStr a b]; rfl
theorem textLen {c f o1 o2 : Int} (P : Par c f o1 o2) : ∀ {t : Nat}, t ≤ 66 → (textOf c f o1 o2 t).length = t
  | 0, _ => by show (Str.ofString "").length = 0; decide +kernel
  | t + 1, h => by
    show (textOf c f o1 o2 t ++ Str.ofString (toString (dig c f o1 o2 t))).length = t + 1
    rw [Str.length_append, textLen P (by omega), digLen P (t := t) (by omega)]
theorem str_cl {prog : Program} {w : World} {A : Around} {E : Value → Shared → Prop} {s : Shared} {c f o1 o2 a : Int} {i : Nat} {t : Tok} {Q : Value → Shared → Prop} (P : Par c f o1 o2) (e : a = dig c f o1 o2 i)
    (h : Q (.str (Str.ofString (toString (dig c f o1 o2 i))) s.toks) { s with toks := s.toks + 1 }) : wpAny (model prog w) A (call (.type "str") [.int a t]) Q E s := by
  subst e
  obtain ⟨x, y⟩ := dig_bd P i
  refine PySem.P.str_of_int ?_ h
  have : (dig c f o1 o2 i).natAbs < 2 ^ 4 := by omega
  exact Nat.lt_of_le_of_lt (Nat.log2_le_self _) (by omega)
theorem iadd_cl {prog : Program} {w : World} {A : Around} {E : Value → Shared → Prop} {s : Shared} {x y : Str} {t u : Tok} {i : Nat} {Q : Value → Shared → Prop} (hx : x.length = i) (hy : y.length = 1) (hi : i ≤ 1000) (h : ∀ t' tk, Q (.str (x ++ y) t') { s with toks := tk }) :
    wpAny (model prog w) A (inplaceOp .Add (.str x t) (.str y u)) Q E s :=
  PyProof.Rows.iadd_str h (by rw [hx, hy, sizeLine_eq]; omega)
theorem rows_WalkC_2 : True := by
  k_with "inplaceOp Add str str" => (((with_reducible show wpAny _ _ (inplaceOp Operator.Add (Value.str (textOf _ _ _ _ _) _) (Value.str _ _)) _ _ _); (refine iadd_cl (by assumption) (by assumption) (by first | exact Nat.le_trans (m := 66) (by assumption) (by decide) | omega) ?_); intro t9 tk9; (try dsimp only); (try k_fold)))
  k_with "call type:str" => (((with_reducible show wpAny _ _ (call (Value.type "str") [Value.int _ _]) _ _ _); (rename Par _ _ _ _ => lP'); (refine str_cl lP' (by assumption) ?_); (try dsimp only); (try k_fold)))
  k_with "ite" => (first | (with_reducible refine' ite_kT ?h9z ?_; (case h9z => with_reducible assumption)) | (with_reducible refine' ite_kF ?h9z ?_; (case h9z => with_reducible assumption)))
  k_with "subscriptTail Name Name ref int" => ((k_here; (with_reducible show wpAny _ _ (subscriptTail _ _ (Value.ref _) (Value.int (Nat.cast _) _)) _ _ _); (with_unfolding_all refine' item_cl ?k19z ?k29z ?k39z ?k49z ?_ ?k69z); ((case k19z => k_asm); (case k29z => k_mem); (case k39z => assumption); (case k49z => first | exact Nat.le_trans (m := 66) (by assumption) (by decide) | omega); (case k69z => with_unfolding_all rfl); k_whole)))
  k_with "call ref" => ((k_here; (with_reducible show wpAny _ _ (call (Value.ref 93) [Value.float _ _, Value.float _ _, Value.float _ _]) _ _ _); (k_dflt (refine' hsv2rgb_call ?k09z ?k19z ?k29z ?k39z ?k49z ?k59z ?k69z ?k79z ?k89z ?c19z ?c29z ?c39z ?c49z ?_)); (case k09z => assumption); (case k19z => k_asm); (case k29z => k_asm); (case k39z => k_asm); (case k49z => k_asm); (case k59z => k_asm); (case k69z => first | exact rfl | assumption); (case k79z => ktr_room); (case k89z => ktr_units); (case c19z => first | exact (start_h (by assumption)).1 | exact OddF.h7 (by assumption)); (case c29z => first | exact (start_h (by assumption)).2.1 | exact OddF.h8 (by assumption)); (case c39z => first | exact (start_h (by assumption)).2.2.1 | exact OddF.h9 (by assumption)); (case c49z => first | exact (start_h (by assumption)).2.2.2 | exact OddF.h10 (by assumption)); intro D9 t9 u9 v9 h9 tk9 F9 N9 l9; (replace l9 := allLt_of l9); (try dsimp only [AllLt] at l9); (try dsimp only); (try k_fold)))
  k_with "call ref" => ((k_here; (with_reducible show wpAny _ _ (call (Value.ref 65) [Value.float _ _, Value.float _ _, Value.float _ _]) _ _ _); (k_dflt (refine' hls_call ?k09z ?k19z ?k29z ?k39z ?k49z ?k59z ?k69z ?k79z ?k89z ?c19z ?c29z ?c39z ?c49z ?_)); (case k09z => assumption); (case k19z => k_asm); (case k29z => k_asm); (case k39z => k_asm); (case k49z => k_asm); (case k59z => k_asm); (case k69z => first | exact rfl | assumption); (case k79z => ktr_room); (case k89z => ktr_units); (case c19z => exact EvenF.h1 (by assumption)); (case c29z => exact EvenF.h2 (by assumption)); (case c39z => exact EvenF.h3 (by assumption)); (case c49z => exact EvenF.h4 (by assumption)); intro D9 t9 u9 v9 h9 tk9 F9 N9 l9; (replace l9 := allLt_of l9); (try dsimp only [AllLt] at l9); (try dsimp only); (try k_fold)))
  k_with "call ref" => ((k_here; (with_reducible show wpAny _ _ (call (Value.ref 72) [Value.float _ _, Value.float _ _, Value.float _ _]) _ _ _); (k_dflt (refine' hls2rgb_call ?k09z ?k19z ?k29z ?k39z ?k49z ?k59z ?k69z ?k79z ?k89z ?c19z ?_)); (case k09z => assumption); (case k19z => k_asm); (case k29z => k_asm); (case k39z => k_asm); (case k49z => k_asm); (case k59z => k_asm); (case k69z => first | exact rfl | assumption); (case k79z => ktr_room); (case k89z => ktr_units); (case c19z => exact EvenF.h7 (by assumption)); intro D9 t9 u9 v9 h9 tk9 F9 N9 l9; (replace l9 := allLt_of l9); (try dsimp only [AllLt] at l9); (try dsimp only); (try k_fold)))
  k_with "call ref" => ((k_here; (with_reducible show wpAny _ _ (call (Value.ref 86) [Value.float _ _, Value.float _ _, Value.float _ _]) _ _ _); (k_dflt (refine' hsv_call ?k09z ?k19z ?k29z ?k39z ?k49z ?k59z ?k69z ?k79z ?k89z ?c19z ?c29z ?c39z ?_)); (case k09z => assumption); (case k19z => k_asm); (case k29z => k_asm); (case k39z => k_asm); (case k49z => k_asm); (case k59z => k_asm); (case k69z => first | exact rfl | assumption); (case k79z => ktr_room); (case k89z => ktr_units); (case c19z => exact OddF.h1 (by assumption)); (case c29z => exact OddF.h2 (by assumption)); (case c39z => exact OddF.h3 (by assumption)); intro D9 t9 u9 v9 h9 tk9 F9 N9 l9; (replace l9 := allLt_of l9); (try dsimp only [AllLt] at l9); (try dsimp only); (try k_fold)))
  k_with "call ref" => ((k_here; (with_reducible show wpAny _ _ (call (Value.ref 114) [Value.float _ _, Value.float _ _]) _ _ _); (k_dflt (refine' near_ffT ?k09z ?k19z ?k29z ?k39z ?k49z ?k59z ?k69z ?k79z ?k89z ?c19z ?_)); (case k09z => assumption); (case k19z => k_asm); (case k29z => k_asm); (case k39z => k_asm); (case k49z => k_asm); (case k59z => k_asm); (case k69z => first | exact rfl | assumption); (case k79z => ktr_room); (case k89z => ktr_units); (case c19z => first | exact EvenF.h5 (by assumption) | exact EvenF.h6 (by assumption) | exact OddF.h5 (by assumption) | exact OddF.h6 (by assumption)); intro h9 tk9 F9 N9; (try dsimp only); (try k_fold)))
  k_with "call ref" => ((k_here; (with_reducible show wpAny _ _ (call (Value.ref 114) [Value.float _ _, Value.int _ _]) _ _ _); (k_dflt (refine' near_fiT ?k09z ?k19z ?k29z ?k39z ?k49z ?k59z ?k69z ?k79z ?k89z ?b19z ?b29z ?c19z ?_)); (case k09z => assumption); (case k19z => k_asm); (case k29z => k_asm); (case k39z => k_asm); (case k49z => k_asm); (case k59z => k_asm); (case k69z => first | exact rfl | assumption); (case k79z => ktr_room); (case k89z => ktr_units); (case b19z => first | exact Int.le_trans (b := 0) (by decide) (by assumption) | omega); (case b29z => first | exact Int.le_trans (b := 10) (by assumption) (by decide) | omega); (case c19z => assumption); intro h9 tk9 F9 N9; (try dsimp only); (try k_fold)))
  trivial
theorem wend {h₀ : Heap} {L : Addr} {x : Str} {stored : List Str} {m₀ : Str → Option Value} {CL : Addr} {vs : List Value} {txt : Str} {k : Col} {tl own : List (Addr × Obj)} {s₁ : Shared} {Q : Flow → Shared → Prop} {h' : Heap} {tk' : Nat} {m' : Str → Option Value}
    {D : Addr} {r1 r2 r3 : UInt64} {t1 t2 t3 tt : Tok} {hu aE : Addr × Obj} {cap : Nat} (F : Fr h₀ L h' m') (N : News h₀ L h' ((D, tup3 r1 t1 r2 t2 r3 t3) :: hu :: (CL, W.listOf (vs.toArray.push (Value.ref D)) cap) :: aE :: (tl ++ own)))
    (hl : hu.1 < D ∧ CL < D ∧ aE.1 < D ∧ AllLt D (tl ++ own)) (ek : k = (r1, r2, r3)) (et : m' (Str.ofString "text") = some (.str txt tt)) (hm : ∀ z, z ≠ x → z ≠ Str.ofString "text" → stored.contains z = false → m' z = m₀ z) :
    WPost h₀ L x stored m₀ CL vs txt k tl own s₁ Q .next { s₁ with heap := h', toks := tk' } := by
  subst ek
  refine ⟨h', tk', m', _, tt, cap, D, t1, t2, t3, rfl, F, N, et, hm, ?_, List.mem_cons_self, Nat.ne_of_gt hl.2.1, ?_, ?_⟩
  · have e : (vs ++ [Value.ref D]).toArray = vs.toArray.push (Value.ref D) := by simp
    rw [e]
    exact List.mem_cons_of_mem _ (List.mem_cons_of_mem _ List.mem_cons_self)
  · intro p hp
    exact Nat.ne_of_lt (kst_ltOf hl.2.2.2 p (List.mem_append_right _ hp))
  · intro p hp
    exact List.mem_cons_of_mem _ (List.mem_cons_of_mem _ (List.mem_cons_of_mem _ (List.mem_cons_of_mem _ hp)))
theorem colAt_even {c f o1 o2 : Int} {i : Nat} (h : (i : Int).fmod 2 = 0) : colAt c f o1 o2 (i + 1) = hlsStep (colAt c f o1 o2 i) c o1 := by
  have : i % 2 = 0 := by rcases fmod2 i with ⟨_, a⟩ | ⟨a, _⟩ <;> omega
  show (if i % 2 = 0 then _ else _) = _
  rw [if_pos this]
theorem colAt_odd {c f o1 o2 : Int} {i : Nat} (h : (i : Int).fmod 2 ≠ 0) : colAt c f o1 o2 (i + 1) = hsvStep (colAt c f o1 o2 i) c o2 := by
  have : ¬ i % 2 = 0 := by rcases fmod2 i with ⟨a, _⟩ | ⟨_, a⟩ <;> omega
  show (if i % 2 = 0 then _ else _) = _
  rw [if_neg this]
noncomputable abbrev stW : List Str := [Str.ofString "red", Str.ofString "green", Str.ofString "blue", Str.ofString "hue", Str.ofString "light", Str.ofString "strength", Str.ofString "share", Str.ofString "value", Str.ofString "place"]
theorem stW_ne {z : Str} (h : stW.contains z = false) : ∀ a ∈ stW, z ≠ a := by
  intro a ha e
  subst e
  rw [List.contains_iff_mem.mpr ha] at h
  cases h

section
variable {w : World} {mean : ExcName → Option Value} {mg mb : Str → Option Value} {news : List (Addr × Obj)} {dp un : Nat} {gd : Option (List Code)} {cn : Str} {cs : Scope} {a : Addr} {ccd : Value} {cl : List (Str × Addr)} {outer : List Env} {A₀ : Around} {base h₀ hV : Heap} {L : Addr} {m : Str → Option Value} {s : Shared} {Q E : Value → Shared → Prop}
  (V : LooseAre looseV mg hV) (hB : Below A₀ base outer h₀) (F : Fr h₀ L s.heap m) (KX : (hd.heap_39 w.params).In h₀) (N : News h₀ L s.heap news) (T : Top hd.view_39 (looseW hd.view_39 looseN) mean mg mb h₀) (hk : cs.kind = .function)
  (hdp : dp + 9 < recursionLimit) (hun : un + 30 < cLine)
include V hB F KX N T hk hdp hun


theorem rows_WalkC_3 : True := by
  k_with "pyIter ref" => ((((with_reducible show wpAny _ _ (pyIter (Value.ref _)) (fun it s₂ => LoopAtV _ _ _ _ _ _ _ _ _ it s₂) _ _)); (k_here); ((rename Fr _ _ _ _ => lF')); ((rename News _ _ _ _ => lN')); ((rename IsRange _ _ _ _ _ _ _ _ => rgX)); ((rename Par _ _ _ _ => lP')); ((with_unfolding_all refine' loopW lP' stW (by rfl) rgX (by omega) lF' lN' ?ka9z ?kb9z (by rfl) ?kt9z ?kd)); ((case ka9z => exact Nat.ne_of_lt (And.left (by assumption)))); ((case kb9z => exact (fun p hp => Nat.ne_of_lt (kst_ltOf (And.right (by assumption)) p hp)))); (all_goals (clear lF' lN' rgX)); ((case' kt9z => (intro i' t' u' tt' vs' cap' ad' a1' a2' a3' tl' own' h' tk' hin' hlen' hget' hadne' hoff' F' N'; ((have hle' : i' ≤ 66 := by omega)); ((have hE' := even_f lP' hle')); ((have hO' := odd_f lP' hle')); ((obtain ⟨q1', q2', q3'⟩ := placeR lP' hle')); (have hT' := textLen lP' hle'); (have hD' := digLen lP' hle')))); (all_goals (try dsimp only)); (all_goals (try k_fold))))
  trivial
theorem walk_call {c f o1 o2 : Int} {n : Nat} {t1 t2 t3 t4 t5 : Tok} (P : Par c f o1 o2) (hc1 : 2 ≤ c) (hc2 : c ≤ 10) (hf1 : 0 ≤ f) (hf2 : f < c) (ho1 : -(4 * c) ≤ o1) (ho2 : o1 ≤ 4 * c) (ho3 : 0 ≤ o2) (ho4 : o2 ≤ 4 * c) (hn : n ≤ 66)
    (hret : ∀ (D CL : Addr) (vs : List Value) (cap : Nat) (tl : List (Addr × Obj)) (tt : Tok) (h' : Heap) (tk' : Nat), vs.length = n + 1 → (∀ p ∈ news, p ∈ tl) → (∀ t, t ≤ n → ∃ ad a1 a2 a3, vs[t]? = some (.ref ad) ∧ (ad, tupC (colAt c f o1 o2 t) a1 a2 a3) ∈ tl) →
      Fr h₀ L h' m → News h₀ L h' ((D, { cls := .type "tuple", data := .seq #[.str (textOf c f o1 o2 n) tt, .ref CL] }) :: (CL, W.listOf vs.toArray cap) :: tl) → CL < D ∧ AllLt D tl → Q (.ref D) { s with heap := h', toks := tk' }) :
    wpAny (model Challenge.rw_pg0104_01.row.prog w) (ktrTop dp un gd cn cs L a ccd cl outer) (call (.ref 121) [.int c t1, .int f t2, .int o1 t3, .int o2 t4, .int n t5]) Q E s := by
  have g1 : -100 ≤ c := Int.le_trans (by decide) hc1
  have g2 : c ≤ 100 := Int.le_trans hc2 (by decide)
  revert KX; k_fill; intro KX
  refine wpAny_call ?_
  k_dflt cell_enter
  k_steps
  all_goals first
    | (refine wend (by assumption) (by assumption) (by assumption) ?_ (by with_unfolding_all rfl) ?_
       · first | (rw [colAt_even (by assumption)]; rfl) | (rw [colAt_odd (by assumption)]; rfl)
       · intro z h1 h2 h3
         have hz := stW_ne h3
         repeat refine Eq.trans (if_neg (by first | exact h1 | exact h2 | exact hz _ (by simp [stW]))) ?_
         exact if_neg (by rw [h3]; decide))
    | exact hret _ _ _ _ _ _ _ _ (by assumption) (by assumption) (by assumption) (by assumption) (by assumption) (by assumption)
end
end Mine
end
section
open PySem PySem.W PySem.Spec PySem.Calls PyProof.Rows
namespace Mine
theorem rows_LawP6 : True := by
  k_with_none
  w_top off
  k_with "storeName" => ((k_here; k_dflt (refine' storeL9 ?F9z ?N9z ?_ ?a9z ?b9z; (case F9z => k_asm); (case N9z => k_asm); (case a9z => rfl); (case b9z => rfl); k_whole; intro h' m' F' N'; (try k_sweep))))
  k_with "ktr_room" => (first | exact rmK (k := 0) (by assumption) (by decide) | exact rmK (k := 1) (by assumption) (by decide) | exact rmK (k := 2) (by assumption) (by decide) | exact rmK (k := 3) (by assumption) (by decide) | exact rmK (k := 4) (by assumption) (by decide) | exact rmK (k := 5) (by assumption) (by decide) | exact rmK (k := 6) (by assumption) (by decide) | exact rmK (k := 7) (by assumption) (by decide) | exact rmK (k := 8) (by assumption) (by decide) | exact rmK (k := 9) (by assumption) (by decide))
  k_with "ktr_units" => (first | exact rmK (k := 0) (by assumption) (by decide) | exact rmK (k := 1) (by assumption) (by decide) | exact rmK (k := 2) (by assumption) (by decide) | exact rmK (k := 3) (by assumption) (by decide) | exact rmK (k := 4) (by assumption) (by decide) | exact rmK (k := 5) (by assumption) (by decide) | exact rmK (k := 6) (by assumption) (by decide) | exact rmK (k := 7) (by assumption) (by decide) | exact rmK (k := 8) (by assumption) (by decide) | exact rmK (k := 9) (by assumption) (by decide) | exact rmK (k := 10) (by assumption) (by decide) | exact rmK (k := 12) (by assumption) (by decide) | exact rmK (k := 13) (by assumption) (by decide) | exact rmK (k := 14) (by assumption) (by decide) | exact rmK (k := 15) (by assumption) (by decide) | exact rmK (k := 16) (by assumption) (by decide) | exact rmK (k := 17) (by assumption) (by decide) | exact rmK (k := 18) (by assumption) (by decide) | exact rmK (k := 20) (by assumption) (by decide) | exact rmK (k := 21) (by assumption) (by decide) | exact rmK (k := 22) (by assumption) (by decide) | exact rmK (k := 23) (by assumption) (by decide) | exact rmK (k := 24) (by assumption) (by decide) | exact rmK (k := 25) (by assumption) (by decide) | exact rmK (k := 26) (by assumption) (by decide) | exact rmK (k := 30) (by assumption) (by decide) | exact rmK (k := 32) (by assumption) (by decide) | exact rmK (k := 33) (by assumption) (by decide) | exact rmK (k := 34) (by assumption) (by decide) | exact rmK (k := 36) (by assumption) (by decide) | exact rmK (k := 64) (by assumption) (by decide) | exact rmK (k := 65) (by assumption) (by decide) | exact rmK (k := 66) (by assumption) (by decide) | exact rmK (k := 68) (by assumption) (by decide))
  trivial
theorem walk6 {w : World} {mean : ExcName → Option Value} {mg mb : Str → Option Value} {news : List (Addr × Obj)} {dp un : Nat} {gd : Option (List Code)} {cn : Str} {cs : Scope} {a : Addr} {ccd : Value} {cl : List (Str × Addr)} {outer : List Env} {A₀ : Around} {base h₀ hV : Heap} {L : Addr} {m : Str → Option Value} {s : Shared} {Q E : Value → Shared → Prop}
  (V : LooseAre looseV mg hV) (hB : Below A₀ base outer h₀) (F : Fr h₀ L s.heap m) (KX : (hd.heap_39 w.params).In h₀) (N : News h₀ L s.heap news) (T : Top hd.view_39 (looseW hd.view_39 looseN) mean mg mb h₀) (hk : cs.kind = .function)
  (hdp : dp + 9 < recursionLimit) (hun : un + 30 < cLine) {c f o1 o2 : Int} {n : Nat} {t1 t2 t3 t4 t5 : Tok} (P : Fl.Par c f o1 o2) (hn : n ≤ 66)
    (hret : ∀ (D CL : Addr) (vs : List Value) (cap : Nat) (tl : List (Addr × Obj)) (tt : Tok) (h' : Heap) (tk' : Nat), vs.length = n + 1 → (∀ t, t ≤ n → ∃ ad a1 a2 a3, vs[t]? = some (.ref ad) ∧ (ad, tupC (colAt c f o1 o2 t) a1 a2 a3) ∈ tl) →
      Fr h₀ L h' m → News h₀ L h' ((D, { cls := .type "tuple", data := .seq #[.str (textOf c f o1 o2 n) tt, .ref CL] }) :: (news ++ (CL, W.listOf vs.toArray cap) :: tl)) → Q (.ref D) { s with heap := h', toks := tk' }) :
    wpAny (model Challenge.rw_pg0104_01.row.prog w) (ktrTop dp un gd cn cs L a ccd cl outer) (call (.ref 121) [.int c t1, .int f t2, .int o1 t3, .int o2 t4, .int n t5]) Q E s :=
  walk_call V hB F KX N T hk hdp hun P P.hc1 P.hc2 P.hf1 P.hf2 P.ho1 P.ho2 P.ho3 P.ho4 hn (fun D CL vs cap tl tt h' tk' l1 l2 l3 F' N' _ => hret D CL vs cap tl tt h' tk' l1 l3 F' (fun p hp => by
    refine N' p ?_
    rcases List.mem_cons.mp hp with rfl | hp
    · exact List.mem_cons_self
    · refine List.mem_cons_of_mem _ ?_
      rcases List.mem_append.mp hp with hp | hp
      · exact List.mem_cons_of_mem _ (l2 p hp)
      · exact hp))
theorem rows_LawP6_0 : True := by
  k_with "call ref" => ((k_here; (with_reducible show wpAny _ _ (call (Value.ref 121) _) _ _ _); (rename Fl.Par _ _ _ _ => lP'); (k_dflt (refine' walk6 ?k09z ?k19z ?k29z ?k39z ?k49z ?k59z ?k69z ?k79z ?k89z lP' ?b19z ?_)); (case k09z => assumption); (case k19z => k_asm); (case k29z => k_asm); (case k39z => k_asm); (case k49z => k_asm); (case k59z => k_asm); (case k69z => exact rfl); (case k79z => ktr_room); (case k89z => ktr_units); (case b19z => omega); intro D9 CL9 vs9 cap9 tl9 tt9 h9 tk9 m9 m8 F9 N9; (try dsimp only [List.cons_append, List.nil_append] at N9); (try dsimp only); (try k_fold)))
  k_with "k_steps" => (repeat' (first | (k_unfold; (try dsimp only)) | (k_end; wrow_close) | ((with_reducible show wpAny _ _ (subscriptTail _ _ _ _) _ _ _); walk1) | ((try dsimp only); walk1) | walk1 | (leave1; walk_say "STEP leave1"; try dsimp only) | fail "no step"))
  trivial
section
variable {w : World} {mean : ExcName → Option Value} {mg mb : Str → Option Value} {dp un : Nat} {gd : Option (List Code)} {a : Addr} {ccd : Value} {outer : List Env} {A₀ : Around} {base h₀ hV : Heap} {L : Addr} {s : Shared} {Q : Flow → Shared → Prop} {E : Value → Shared → Prop} {cF cO c1 cC : Addr}
  (V : LooseAre looseV mg hV) (hB : Below A₀ base outer h₀) (KX : (hd.heap_39 w.params).In h₀) (T : Top hd.view_39 (looseW hd.view_39 looseN) mean mg mb h₀)
  (hdp : dp + 9 < recursionLimit) (hun : un + 100 < cLine)
include V hB KX T hdp hun
theorem law_p6 {c f e1 e2 : Int} {n : Nat} {t0 t1 t2 t3 u1 u2 u3 : Tok} {v1 v2 : Value} {u : Str → Option Value} {oF oO o1 oC : Obj} (P : Fl.Par c f e1 e2) (hn : n ≤ 66)
    (F : Fr h₀ L s.heap (fmu [(S "size", .int (n : Int) u3), (S "fourth", v2), (S "third", v1)] u))
    (N : News h₀ L s.heap [(cF, oF), (cO, oO), (c1, o1), (cC, oC)]) (dF : oF.data = .cell (some (.int f t0))) (dO : oO.data = .cell (some (.int e2 t1))) (d1 : o1.data = .cell (some (.int e1 t2))) (dC : oC.data = .cell (some (.int c t3)))
    (hret : ∀ (CL D : Addr) (vs : List Value) (cap : Nat) (tl : List (Addr × Obj)) (tt : Tok) (h' : Heap) (tk' : Nat), vs.length = n + 1 → (∀ t, t ≤ n → ∃ ad a1 a2 a3, vs[t]? = some (.ref ad) ∧ (ad, tupC (colAt c f e1 e2 t) a1 a2 a3) ∈ tl) →
      Fr h₀ L h' (fmu [(S "colours", .ref CL), (S "text", .str (textOf c f e1 e2 n) tt), (S "walk", .ref D), (S "size", .int (n : Int) u3), (S "fourth", v2), (S "third", v1)] u) →
      News h₀ L h' ((cF, oF) :: (cO, oO) :: (c1, o1) :: (cC, oC) :: (CL, W.listOf vs.toArray cap) :: tl) → Q .next { s with heap := h', toks := tk' }) :
    wpAny (model Challenge.rw_pg0104_01.row.prog w) (ktrTop dp un gd (S "law") lawS L a ccd (lawCl cF cO c1 cC) outer) (execs ((lawRec.body.drop 11).take 3) (envX (S "law") lawS L a ccd (lawCl cF cO c1 cC))) Q E s := by
  revert KX; k_fill; intro KX
  dsimp only [lawRec, dOf, List.take, List.drop]
  k_steps
  rename News _ _ _ _ => N9
  exact hret _ _ _ _ _ _ _ _ (by assumption) (by assumption) (by assumption) (newsSub (List.Sublist.cons _ (List.Sublist.refl _)) N9)
end
end Mine
end
section
open PySem PySem.W PySem.Spec PySem.Calls PyProof.Rows
namespace Mine
open Fl
theorem join_flat : ∀ l : List Str, (Str.join ⟨#[]⟩ l).cps.toList = (l.map fun x => x.cps.toList).flatten
  | [] => rfl
  | [x] => by simp [Str.join]
  | x :: y :: r => by
    show ((x ++ ⟨#[]⟩ ++ Str.join ⟨#[]⟩ (y :: r)) : Str).cps.toList = _
    have := join_flat (y :: r)
    simp only [Str.cps_append, Array.toList_append, this, List.map_cons, List.flatten_cons]
    simp
theorem rangeKs_snoc (a : Int) (n : Nat) : rangeKs a (n + 1) = rangeKs a n ++ [a + (n : Int)] := by
  unfold rangeKs
  rw [List.range_succ, List.map_append]
  rfl
theorem text_flat (c f e1 e2 : Int) : ∀ n : Nat, (textOf c f e1 e2 n).cps.toList = ((((rangeKs 0 n).map (fun k' => dig c f e1 e2 k'.toNat)).map (fun k => Str.ofString (toString k))).map fun x => x.cps.toList).flatten
  | 0 => by
    show (Str.ofString "").cps.toList = []
    decide +kernel
  | n + 1 => by
    show ((textOf c f e1 e2 n ++ Str.ofString (toString (dig c f e1 e2 n))) : Str).cps.toList = _
    rw [rangeKs_snoc]
    simp only [Str.cps_append, Array.toList_append, text_flat c f e1 e2 n, List.map_append, List.flatten_append, List.map_cons, List.map_nil, List.flatten_cons, List.flatten_nil, List.append_nil, Int.zero_add, Int.toNat_natCast]
theorem join_text (c f e1 e2 : Int) (n : Nat) : Txt.join (Str.ofString "") (((rangeKs 0 n).map (fun k' => dig c f e1 e2 k'.toNat)).map (fun k => Str.ofString (toString k))) = textOf c f e1 e2 n := by
  show Builtin.Str.glued (Str.ofString "") _ = _
  rw [StrLaws.glued_eq_join, show Str.ofString "" = (⟨#[]⟩ : Str) from by decide +kernel]
  apply Str.ext'
  apply Array.toList_inj.mp
  rw [join_flat, text_flat]
end Mine
end
section
open PySem PySem.W PySem.Spec PySem.Calls PyProof.Rows
namespace Mine
theorem rows_LawP7 : True := by
  k_with_none
  w_top off
  k_with "storeName" => ((k_here; k_dflt (refine' storeL9 ?F9z ?N9z ?_ ?a9z ?b9z; (case F9z => k_asm); (case N9z => k_asm); (case a9z => rfl); (case b9z => rfl); k_whole; intro h' m' F' N'; (try k_sweep))))
  k_with "ktr_room" => (first | exact rmK (k := 0) (by assumption) (by decide) | exact rmK (k := 1) (by assumption) (by decide) | exact rmK (k := 2) (by assumption) (by decide) | exact rmK (k := 3) (by assumption) (by decide) | exact rmK (k := 4) (by assumption) (by decide) | exact rmK (k := 5) (by assumption) (by decide) | exact rmK (k := 6) (by assumption) (by decide) | exact rmK (k := 7) (by assumption) (by decide) | exact rmK (k := 8) (by assumption) (by decide) | exact rmK (k := 9) (by assumption) (by decide))
  k_with "ktr_units" => (first | exact rmK (k := 0) (by assumption) (by decide) | exact rmK (k := 1) (by assumption) (by decide) | exact rmK (k := 2) (by assumption) (by decide) | exact rmK (k := 3) (by assumption) (by decide) | exact rmK (k := 4) (by assumption) (by decide) | exact rmK (k := 5) (by assumption) (by decide) | exact rmK (k := 6) (by assumption) (by decide) | exact rmK (k := 7) (by assumption) (by decide) | exact rmK (k := 8) (by assumption) (by decide) | exact rmK (k := 9) (by assumption) (by decide) | exact rmK (k := 10) (by assumption) (by decide) | exact rmK (k := 12) (by assumption) (by decide) | exact rmK (k := 13) (by assumption) (by decide) | exact rmK (k := 14) (by assumption) (by decide) | exact rmK (k := 15) (by assumption) (by decide) | exact rmK (k := 16) (by assumption) (by decide) | exact rmK (k := 17) (by assumption) (by decide) | exact rmK (k := 18) (by assumption) (by decide) | exact rmK (k := 20) (by assumption) (by decide) | exact rmK (k := 21) (by assumption) (by decide) | exact rmK (k := 22) (by assumption) (by decide) | exact rmK (k := 23) (by assumption) (by decide) | exact rmK (k := 24) (by assumption) (by decide) | exact rmK (k := 25) (by assumption) (by decide) | exact rmK (k := 26) (by assumption) (by decide) | exact rmK (k := 30) (by assumption) (by decide) | exact rmK (k := 32) (by assumption) (by decide) | exact rmK (k := 33) (by assumption) (by decide) | exact rmK (k := 34) (by assumption) (by decide) | exact rmK (k := 36) (by assumption) (by decide) | exact rmK (k := 64) (by assumption) (by decide) | exact rmK (k := 65) (by assumption) (by decide) | exact rmK (k := 66) (by assumption) (by decide) | exact rmK (k := 68) (by assumption) (by decide))
  trivial
open Fl
theorem placeZ_eq (f o1 o2 : Int) (t : Nat) : (f + ((t : Int).fdiv 2) * (o1 + o2) + (t : Int).fmod 2 * o1) = placeZ f o1 o2 t := by
  unfold placeZ
  rw [Int.fdiv_eq_ediv_of_nonneg _ (by decide), Int.fmod_eq_emod_of_nonneg _ (by decide)]
  push_cast
  rfl
theorem place_b {k : Int} {n : Nat} (h : k < 0 + ((((n : Int) - 0).toNat : Nat) : Int)) (hn : n ≤ 66) : k ≤ 72 := by omega
theorem place7 {w : World} {mean : ExcName → Option Value} {mg mb : Str → Option Value} {news : List (Addr × Obj)} {dp un : Nat} {gd : Option (List Code)} {cn : Str} {cs : Scope} {a : Addr} {ccd : Value} {cl : List (Str × Addr)} {outer : List Env} {A₀ : Around} {base h₀ hV : Heap} {L : Addr} {m : Str → Option Value} {s : Shared} {Q E : Value → Shared → Prop}
  (V : LooseAre looseV mg hV) (hB : Below A₀ base outer h₀) (F : Fr h₀ L s.heap m) (KX : (hd.heap_39 w.params).In h₀) (N : News h₀ L s.heap news) (T : Top hd.view_39 (looseW hd.view_39 looseN) mean mg mb h₀) (hk : cs.kind = .function)
  (hdp : dp + 3 < recursionLimit) (hun : un + 12 < cLine) {c f o1 o2 i : Int} {t1 t2 t3 t4 t5 : Tok} (P : Fl.Par c f o1 o2) (hi0 : 0 ≤ i) (hi : i ≤ 72)
    (hret : ∀ (r : Tok) (h' : Heap) (tk' : Nat), Fr h₀ L h' m → News h₀ L h' news → Q (.int (dig c f o1 o2 i.toNat) r) { s with heap := h', toks := tk' }) :
    wpAny (model Challenge.rw_pg0104_01.row.prog w) (ktrTop dp un gd cn cs L a ccd cl outer) (call (.ref 100) [.int c t1, .int f t2, .int o1 t3, .int o2 t4, .int i t5]) Q E s := by
  obtain ⟨k, rfl⟩ := Int.eq_ofNat_of_zero_le hi0
  rw [Int.toNat_natCast] at hret
  exact place_call V hB F KX N T hk hdp hun P.hc1 P.hc2 P.hf1 P.hf2 P.ho1 P.ho2 P.ho3 P.ho4 (by omega) (fun r h' tk' F' N' => by rw [placeZ_eq]; exact hret r h' tk' F' N')
theorem rows_LawP7_0 : True := by
  k_with "call ref" => ((k_here; (with_reducible show wpAny _ _ (call (Value.ref 100) _) _ _ _); (rename Fl.Par _ _ _ _ => lP'); (k_dflt (refine' place7 ?k09z ?k19z ?k29z ?k39z ?k49z ?k59z ?k69z ?k79z ?k89z lP' ?b09z ?b19z ?_)); (case k09z => assumption); (case k19z => k_asm); (case k29z => k_asm); (case k39z => k_asm); (case k49z => k_asm); (case k59z => k_asm); (case k69z => k_dflt (exact rfl)); (case k79z => ktr_room); (case k89z => ktr_units); (case b09z => first | assumption | omega); (case b19z => first | exact place_b (by assumption) (by assumption) | omega); intro t9 h9 tk9 F9 N9; (try dsimp only); (try k_fold)))
  trivial
theorem dig_mem {c f e1 e2 k : Int} {l : List Int} (P : Fl.Par c f e1 e2) (h : k ∈ List.map (fun k' => dig c f e1 e2 k'.toNat) l) : 0 ≤ k ∧ k < 10 := by
  obtain ⟨i, _, rfl⟩ := List.mem_map.mp h
  exact dig_bd P _
theorem str7 {prog : Program} {w : World} {A : Around} {E : Value → Shared → Prop} {s : Shared} {c f e1 e2 k : Int} {l : List Int} {t : Tok} {Q : Value → Shared → Prop} (P : Fl.Par c f e1 e2) (hk : k ∈ List.map (fun k' => dig c f e1 e2 k'.toNat) l)
    (h : Q (.str (Str.ofString (toString k)) s.toks) { s with toks := s.toks + 1 }) : wpAny (model prog w) A (call (.type "str") [.int k t]) Q E s := by
  obtain ⟨x, y⟩ := dig_mem P hk
  refine PySem.P.str_of_int ?_ h
  have : k.natAbs < 2 ^ 4 := by omega
  exact Nat.lt_of_le_of_lt (Nat.log2_le_self _) (by omega)
theorem comp7 {ys : List Value} {g : Int → Int} {n : Nat} (h : IntsAre ys (List.map g (rangeKs 0 ((n : Int) - 0).toNat))) (hn : n ≤ 66) : ys.toArray.size ≤ sizeLine := by
  have := h.length
  rw [List.length_map, rangeKs_length] at this
  rw [List.size_toArray, this, sizeLine_eq]
  omega
theorem join7 {prog : Program} {w : World} {A : Around} {E : Value → Shared → Prop} {s : Shared} {h₀ : Heap} {L D : Addr} {news : List (Addr × Obj)} {ys : List Value} {c f e1 e2 : Int} {n : Nat} {t : Tok} {Q : Value → Shared → Prop} (P : Fl.Par c f e1 e2) (hn : n ≤ 66)
    (N : News h₀ L s.heap news) (hm : (D, LCg.lst ys) ∈ news) (hc : CarriedAll ys ((List.map (fun k' => dig c f e1 e2 k'.toNat) (rangeKs 0 ((n : Int) - 0).toNat)).map fun k => PyData.str (Str.ofString (toString k))))
    (h : ∀ t' k, Q (.str (textOf c f e1 e2 n) t') { s with toks := k }) : wpAny (model prog w) A (call (.builtin "str.join") [.str (Str.ofString "") t, .ref D]) Q E s := by
  have e0 : ((n : Int) - 0).toNat = n := by omega
  rw [e0] at hc
  refine KT.join_1 (g := fun k => Str.ofString (toString k)) (l := List.map (fun k' => dig c f e1 e2 k'.toNat) (rangeKs 0 n)) ⟨_, (N _ hm).1, rfl, _, rfl⟩ hc ?_ ?_ ?_
  · intro a ha
    obtain ⟨x, y⟩ := dig_mem P ha
    rw [digStr x y]
    rfl
  · rw [List.length_map, rangeKs_length]; omega
  · intro t' k _
    rw [join_text]
    exact h t' k
theorem rows_LawP7_1 : True := by
  k_with "call builtin:str.join" => ((k_here; (with_reducible show wpAny _ _ (call (Value.builtin "str.join") [Value.str _ _, Value.ref _]) _ _ _); (rename CarriedAll _ _ => lC9); (rename Fl.Par _ _ _ _ => lP'); k_dflt (refine' join7 lP' ?b9z ?N9z ?m9z lC9 ?_; (case b9z => assumption); (case N9z => k_asm); (case m9z => k_mem); k_whole); intro t9 k9; (try dsimp only)))
  k_with "CompEnd" => ((k_here; k_dflt (refine' LCg.CompEnd.intro ?F9z ?N9z _ (fun p hp => hp) ?o9z ?s9z ⟨rfl, ⟨_, rfl⟩⟩; (case F9z => assumption); (case N9z => assumption); (case o9z => assumption); (case s9z => first | exact True.intro | exact Or.inr ⟨_, by k_mem, rfl, _, rfl⟩))))
  k_with "eval ListComp" => ((k_here; k_dflt (refine LCg.ListComp_U (F₀ := by k_asm) (by with_unfolding_all rfl) (by decide) (by rfl) (by decide) (by rfl) ?_)))
  k_with "CompSrc" => ((k_here; k_dflt ((refine' LCg.CompSrc.ledger ?x19z ?x29z ?x39z ?x49z ?x59z ?_; (case x19z => rfl); (case x29z => k_asm); (case x39z => k_asm); (case x49z => k_mem); (case x59z => first | size_fits | exact comp7 (by assumption) (by assumption)); intro g'; (refine' kct_list (fun k => Str.ofString (toString k)) (by assumption) (fun k' t' I' oI' C' oC' D' m' ys' h' tk' E' hk' hC' hx' F' N' off' ne' => ?_) ?_); (all_goals (try ((show KPfMark → _); intro hMark')))))))
  k_with "call type:str" => (((with_reducible show wpAny _ _ (call (Value.type "str") [Value.int _ _]) _ _ _); (rename Fl.Par _ _ _ _ => lP'); (refine str7 lP' (by assumption) ?_); (try dsimp only); (try k_fold)))
  k_with "k_steps" => (repeat' (first | (k_unfold; (try dsimp only)) | (k_end; wrow_close) | ((with_reducible show wpAny _ _ (subscriptTail _ _ _ _) _ _ _); walk1) | ((try dsimp only); walk1) | walk1 | (leave1; walk_say "STEP leave1"; try dsimp only) | fail "no step"))
  trivial
section
variable {w : World} {mean : ExcName → Option Value} {mg mb : Str → Option Value} {dp un : Nat} {gd : Option (List Code)} {a : Addr} {ccd : Value} {outer : List Env} {A₀ : Around} {base h₀ hV : Heap} {L : Addr} {s : Shared} {Q : Flow → Shared → Prop} {E : Value → Shared → Prop} {cF cO c1 cC : Addr}
  (V : LooseAre looseV mg hV) (hB : Below A₀ base outer h₀) (KX : (hd.heap_39 w.params).In h₀) (T : Top hd.view_39 (looseW hd.view_39 looseN) mean mg mb h₀)
  (hdp : dp + 9 < recursionLimit) (hun : un + 100 < cLine)
include V hB KX T hdp hun
theorem law_p7 {CL D : Addr} {c f e1 e2 : Int} {n : Nat} {t0 t1 t2 t3 u1 u2 u3 tt : Tok} {v1 v2 : Value} {u : Str → Option Value} {oF oO o1 oC oL : Obj} {tl : List (Addr × Obj)} (P : Fl.Par c f e1 e2) (hn : n ≤ 66)
    (F : Fr h₀ L s.heap (fmu [(S "colours", .ref CL), (S "text", .str (textOf c f e1 e2 n) tt), (S "walk", .ref D), (S "size", .int (n : Int) u3), (S "fourth", v2), (S "third", v1)] u))
    (N : News h₀ L s.heap ((cF, oF) :: (cO, oO) :: (c1, o1) :: (cC, oC) :: (CL, oL) :: tl)) (dF : oF.data = .cell (some (.int f t0))) (dO : oO.data = .cell (some (.int e2 t1))) (d1 : o1.data = .cell (some (.int e1 t2))) (dC : oC.data = .cell (some (.int c t3)))
    (hret : ∀ (h' : Heap) (tk' : Nat) (DP : Addr) (ys : List Value), IntsAre ys ((rangeKs 0 ((n : Int) - 0).toNat).map (fun k' => dig c f e1 e2 k'.toNat)) →
      Fr h₀ L h' (fmu [(S "places", .ref DP), (S "colours", .ref CL), (S "text", .str (textOf c f e1 e2 n) tt), (S "walk", .ref D), (S "size", .int (n : Int) u3), (S "fourth", v2), (S "third", v1)] u) →
      News h₀ L h' ((DP, LCg.lst ys) :: (cF, oF) :: (cO, oO) :: (c1, o1) :: (cC, oC) :: (CL, oL) :: tl) → Q .next { s with heap := h', toks := tk' }) :
    wpAny (model Challenge.rw_pg0104_01.row.prog w) (ktrTop dp un gd (S "law") lawS L a ccd (lawCl cF cO c1 cC) outer) (execs ((lawRec.body.drop 14).take 2) (envX (S "law") lawS L a ccd (lawCl cF cO c1 cC))) Q E s := by
  revert KX; k_fill; intro KX
  dsimp only [lawRec, dOf, List.take, List.drop]
  k_steps
  · exfalso
    rename (_ != _) = true => h9
    simp at h9
  · rename News _ _ _ _ => N9
    exact hret _ _ _ _ (by assumption) (by assumption) (newsSub (List.Sublist.cons _ (List.Sublist.refl _)) N9)
end
end Mine
end
section
open PySem PySem.W PySem.Spec PySem.Calls PyProof.Rows
namespace Mine
section
variable {M : Model} {A : Around} {E : Value → Shared → Prop} {s : Shared}
theorem codeC_loop {c : Code} {R : Result → Shared → Prop} (hq : c.quiet = true) (I : Nat → Shared → Prop)
    (turn : ∀ n s, I n s → wpC M (A.under c) (M.den c)
      (fun fin s' => match fin with
        | .done f => R (.ok f) s'
        | .again c' => (c' = c ∧ ∃ m, m < n ∧ I m s') ∨ (c'.quiet = true ∧ codeC M A c' R s')) (fun e s' => R (.error e) s') s)
    (n : Nat) (h : I n s) : codeC M A c R s := by
  induction n using Nat.strongRecOn generalizing s with
  | ind n ih =>
    refine codeC_of_tree (wpC_mono (turn n s h) (fun fin s' hf => ?_) fun _ _ h' => h')
    cases fin with
    | done f => exact hf
    | again c' =>
      rcases hf with ⟨rfl, m, hm, hI⟩ | hf
      · exact ⟨hq, ih m hm hI⟩
      · exact hf
theorem wpC_onRaise_none {α : Type} {m : Sem α} {k : Value → Sem Unit} {Q : α → Shared → Prop} (h : wpC M A m Q (fun _ _ => False) s) : wpC M A (m.onRaise k) Q E s :=
  wpC_onRaise (wpC_mono h (fun _ _ x => x) fun _ _ x => x.elim)
theorem wpC_execs_cons {env : Env} {st : Stmt} {rest : List Stmt} {Q : Flow → Shared → Prop}
    (h : wpC M A (exec st env) (fun f s' => match f with | .next => wpC M A (execs rest env) Q E s' | f => Q f s') E s) : wpC M A (execs (st :: rest) env) Q E s := by
  rw [execs_cons]
  refine wpC_bind (wpC_mono h (fun f s' h' => ?_) fun _ _ h' => h')
  cases f <;> first | exact h' | exact wpC_pure h'
theorem wpC_execs_append {env : Env} {l1 l2 : List Stmt} {Q : Flow → Shared → Prop}
    (h : wpC M A (execs l1 env) (fun f s' => match f with | .next => wpC M A (execs l2 env) Q E s' | f => Q f s') E s) : wpC M A (execs (l1 ++ l2) env) Q E s := by
  intro Γ p hΓ hc
  refine wp_append (Sem.wp_mono M Γ _ (fun f p' s' h' => ?_) (fun _ _ _ h' => h') p s (h Γ p hΓ hc))
  cases f with
  | next => exact h' Γ p' hΓ hc
  | _ => exact h'
end
section
variable {prog : Program} {w : World} {A : Around} {E : Value → Shared → Prop} {s : Shared} {env : Env}
theorem codeC_forLoop {R : Result → Shared → Prop} {target : PySem.Expr} {it : Value} {body : List Stmt} (I : Nat → Shared → Prop)
    (turn : ∀ n s, I n s → wpAny (model prog w) A (pyNext it) (fun r s₁ => match r with
      | none => R (.ok .next) s₁
      | some v => wpAny (model prog w) A (assign target env v) (fun _ s₂ => wpC (model prog w) A (execs body env) (fun f s₃ => match f with
          | .next | .cont => ∃ m, m < n ∧ I m s₃
          | .brk => R (.ok .next) s₃
          | .ret v => R (.ok (.ret v)) s₃) (fun _ _ => False) s₂) (fun _ _ => False) s₁) (fun _ _ => False) s)
    (n : Nat) (h : I n s) (ht : ∀ v, letOwnedTupleGo target it v = pure () := by intro _; rfl) : codeC (model prog w) A (.forLoop target it body [] env) R s := by
  refine codeC_loop rfl I (fun n s hI => ?_) n h
  show wpC _ _ ((forTurn target it body [] env).onRaise (fun x => do noteFrame x env; theTreesLotGoes x)) _ _ s
  refine wpC_onRaise_none ?_
  simp only [forTurn]
  refine wpC_bind (wpC_of (wpAny_standAt (wpC_bind (wpC_of (wpAny_onRaise (wpAny_mono (turn n s hI) (fun r s₁ h₁ => ?_) fun _ _ h' => h'.elim))))))
  cases r with
  | none => exact wpC_pure (.inr ⟨rfl, codeC_of (codeAny_block (wpAny_execs_nil h₁))⟩)
  | some v =>
    refine wpC_bind (wpC_of (wpAny_of_eq (ht v) ?_))
    refine wpC_bind (wpC_of (wpAny_mono h₁ (fun _ s₂ h₂ => wpC_bind (wpC_mono h₂ (fun f s₃ h₃ => ?_) fun _ _ h' => h')) fun _ _ h' => h'))
    cases f with
    | next => exact wpC_pure (.inl ⟨rfl, h₃⟩)
    | cont => exact wpC_pure (.inl ⟨rfl, h₃⟩)
    | brk => exact wpC_pure h₃
    | ret v => exact wpC_pure h₃
theorem wpC_For {target iter : PySem.Expr} {body : List Stmt} {pos : Pos} {Q : Flow → Shared → Prop}
    (h : wpAny (model prog w) A (eval iter env) (fun x s₁ => wpAny (model prog w) A (pyIter x) (fun it s₂ =>
      codeC (model prog w) A (.forLoop target it body [] env) (fun r s' => match r with | .ok f => Q f s' | .error e => False) s₂) E s₁) E s)
    (hs : ∀ x, foldedSetIterable iter env x = pure x := by intro _; rfl) :
    wpC (model prog w) A (exec (.For target iter body [] pos) env) Q E s := by
  rw [exec_For]
  refine wpC_bind (wpC_of (wpAny_standAt (wpC_bind (wpC_of (wpAny_mono h (fun x s₁ h₁ => wpC_bind (wpC_of (wpAny_of_eq (hs x) (wpC_bind (wpC_of (wpAny_standAt (wpC_bind (wpC_of (wpAny_holding
    (wpAny_mono h₁ (fun it s₂ h₂ => ?_) fun _ _ h' => h')))))))))) fun _ _ h' => h')))))
  unfold runOwn
  refine wpC_onRaise_none (wpC_run (codeC_mono h₂ fun r s' hr => ?_))
  cases r with
  | ok f => exact hr
  | error e => exact hr

noncomputable def CPost (h₀ : Heap) (L : Addr) (x : Str) (stored : List Str) (m₀ : Str → Option Value) (news : List (Addr × Obj)) (s : Shared) (f : Flow) (s₂ : Shared) : Prop := match f with
  | .next => ∃ h' tk' m', s₂ = { s with heap := h', toks := tk' } ∧ Fr h₀ L h' m' ∧ News h₀ L h' news ∧ (∀ z, z ≠ x → stored.contains z = false → m' z = m₀ z)
  | _ => False
theorem CPost.intro {h₀ : Heap} {L : Addr} {x : Str} {stored : List Str} {m₀ : Str → Option Value} {news : List (Addr × Obj)} {s : Shared} {h' : Heap} {tk' : Nat} {m' : Str → Option Value} (F : Fr h₀ L h' m') (N : News h₀ L h' news) (hm : ∀ z, z ≠ x → stored.contains z = false → m' z = m₀ z) :
    CPost h₀ L x stored m₀ news s .next { s with heap := h', toks := tk' } := ⟨h', tk', m', rfl, F, N, hm⟩
theorem loopC {h₀ : Heap} {x : Str} {px : Pos} {body : List Stmt} {Q : Flow → Shared → Prop} {r : Addr} {n : Nat} {t₀ u₀ v₀ : Tok} {m₀ : Str → Option Value} {news : List (Addr × Obj)} (stored : List Str)
    (hh : A.handled = none) (hr : IsRange s.heap r 0 (n : Int) 1 t₀ u₀ v₀) (hn : n ≤ 100) (F : Fr h₀ env.locals s.heap m₀) (N : News h₀ env.locals s.heap news) (hx : env.kindOf x = some .local)
    (hp : (env.scope.kind == .class || (env.scope.kind == .module && env.locals != env.globals)) = false)
    (turn : ∀ (i : Nat) (t : Tok) (u : Str → Option Value) (own : Addr × Obj) (h : Heap) (tk : Nat), i < n → (∀ p ∈ news, p.1 < own.1) →
      Fr h₀ env.locals h (fun y => if y = x then some (.int (i : Int) t) else if stored.contains y = true then u y else m₀ y) → News h₀ env.locals h (own :: news) →
      wpC (model prog w) A (execs body env) (CPost h₀ env.locals x stored m₀ (own :: news) s) (fun _ _ => False) { s with heap := h, toks := tk })
    (done : ∀ (u : Str → Option Value) (h : Heap) (tk : Nat), Fr h₀ env.locals h (fun y => if y = x then u y else if stored.contains y = true then u y else m₀ y) → News h₀ env.locals h news → Q .next { s with heap := h, toks := tk }) :
    wpAny (model prog w) A (pyIter (.ref r)) (fun it s₂ => codeC (model prog w) A (.forLoop (.Name x px) it body [] env) (fun r s' => match r with | .ok f => Q f s' | .error e => False) s₂) E s := by
  have mapF : ∀ (m' : Str → Option Value) (v : Value), (∀ z, z ≠ x → stored.contains z = false → m' z = m₀ z) → (fun y => if y = x then some v else m' y) = fun y => if y = x then some v else if stored.contains y = true then m' y else m₀ y := by
    intro m' v hm
    funext z
    by_cases c1 : z = x
    · simp [c1]
    · simp only [if_neg c1]
      cases c3 : stored.contains z with
      | true => simp
      | false => simp only [Bool.false_eq_true, if_false]; exact hm z c1 c3
  have mapG : ∀ (m' : Str → Option Value), (∀ z, z ≠ x → stored.contains z = false → m' z = m₀ z) → m' = fun y => if y = x then m' y else if stored.contains y = true then m' y else m₀ y := by
    intro m' hm
    funext z
    by_cases c1 : z = x
    · simp [c1]
    · simp only [if_neg c1]
      cases c3 : stored.contains z with
      | true => simp
      | false => simp only [Bool.false_eq_true, if_false]; exact hm z c1 c3
  have hnew : h₀.get? s.heap.objs.size = none := next_is_new F
  have hL : s.heap.objs.size ≠ env.locals := fun e => absurd F.ns.lt (e ▸ Nat.lt_irrefl _)
  have hlt : ∀ p ∈ news, p.1 < s.heap.objs.size := fun p hp => Heap.lt_size (N p hp).1
  refine wpAny_pyIter_range hr (small_one (by (first | lia | omega)) (by (first | lia | omega)) (by (first | lia | omega)) (by (first | lia | omega))) ?_
  have hsz : Builtin.Range.rangeSize 0 (n : Int) 1 = (n : Int) := by simp [Builtin.Range.rangeSize]; (first | lia | omega)
  rw [hsz]
  have hit0 : IsRangeIter (s.heap.push { cls := .type "range_iterator", data := .fields #[rawInt 0, rawInt (n : Int), rawInt 1] }) s.heap.objs.size ((0 : Nat) : Int) ((n : Int) - ((0 : Nat) : Int)) 1 := by
    rw [show (n : Int) - ((0 : Nat) : Int) = (n : Int) by (first | lia | omega)]
    exact Heap.get?_push_size _ rfl
  generalize s.heap.objs.size = it at *
  refine codeC_forLoop
    (fun k s' => ∃ h' tk m' i, s' = { s with heap := h', toks := tk } ∧ IsRangeIter h' it ((i : Nat) : Int) ((n : Int) - (i : Nat)) 1 ∧ Fr h₀ env.locals h' m' ∧ News h₀ env.locals h' news ∧ (∀ z, z ≠ x → stored.contains z = false → m' z = m₀ z) ∧ i ≤ n ∧ k = n + 1 - i)
    ?_ (n + 1) ⟨_, _, m₀, 0, rfl, ?_, F.push _, fun p hp => ⟨Heap.get?_push_of_some _ (N p hp).1, (N p hp).2⟩, fun _ _ _ => rfl, Nat.zero_le _, rfl⟩
  · intro k s' hI
    refine hidG fun hn => ?_
    obtain ⟨h', tk, m', i, rfl, hit, F', N', hm', hi, rfl⟩ := hI
    refine hn.ex ?_
    clear hn
    by_cases hlt' : i < n
    · refine wpAny_pyNext_range_item hit (by (first | lia | omega)) fun h₁ hit₁ hs₁ => ?_
      have ns₁ : h₁.Ns env.locals m' := F'.ns.sameBut hs₁ (Ne.symm hL)
      refine wpAny_assign_Name (wpAny_storeName_local hx ns₁ (fun h₂ hn₂ hs₂ => ?_) hp)
      have F₁ : Fr h₀ env.locals h₁ m' := ⟨ns₁, fun b o e => (hs₁.2 b (fun q => by rw [q, hnew] at e; cases e)).trans (F'.keep b o e), F'.above⟩
      have F₂ := F₁.set hn₂ hs₂
      have hit₂ : h₂.get? it = _ := (hs₂.2 it hL).trans hit₁
      have N₂ : News h₀ env.locals h₂ ((it, { cls := .type "range_iterator", dict := none, data := .fields #[rawInt ((i : Int) + 1), rawInt ((n : Int) - (i : Int) - 1), rawInt 1], slots := #[] }) :: news) := by
        intro p hp
        rcases List.mem_cons.mp hp with rfl | hp
        · exact ⟨hit₂, hL, hnew⟩
        · exact ⟨(hs₂.2 _ (N' p hp).2.1).trans ((hs₁.2 _ (Nat.ne_of_lt (hlt p hp))).trans (N' p hp).1), (N' p hp).2⟩
      rw [mapF m' _ hm'] at F₂
      refine wpC_mono (turn i _ m' _ h₂ _ hlt' hlt F₂ N₂) (fun f s₃ h₃ => ?_) fun _ _ e => e
      cases f with
      | next =>
        refine hidG fun hn => ?_
        obtain ⟨h₄, tk₄, m₄, rfl, F₄, N₄, hm₄⟩ := h₃
        refine hn.ex ⟨n + 1 - (i + 1), by (first | lia | omega), h₄, tk₄, m₄, i + 1, rfl, ?_, F₄, fun p hp => N₄ p (List.mem_cons_of_mem _ hp), hm₄, hlt', rfl⟩
        have := (N₄ _ List.mem_cons_self).1
        have e2 : (n : Int) - ((i + 1 : Nat) : Int) = (n : Int) - (i : Int) - 1 := by push_cast; (first | lia | omega)
        rw [e2]
        exact this
      | cont => exact h₃.elim
      | brk => exact h₃.elim
      | ret v => exact h₃.elim
    · have hin : i = n := by (first | lia | omega)
      subst hin
      refine wpAny_pyNext_range_end hh hit (by (first | lia | omega)) fun h₁ he₁ => ?_
      have F₁ : Fr h₀ env.locals h₁ m' := ⟨F'.ns.extBut he₁ (Ne.symm hL), fun b o e => he₁ b o (fun q => by rw [q, hnew] at e; cases e) (F'.keep b o e), F'.above⟩
      have N₁ : News h₀ env.locals h₁ news := fun p hp => ⟨he₁ _ _ (Nat.ne_of_lt (hlt p hp)) (N' p hp).1, (N' p hp).2⟩
      rw [mapG m' hm'] at F₁
      exact done m' h₁ tk F₁ N₁
  · exact hit0
end
end Mine
end
section
open PySem PySem.W PySem.Spec PySem.Calls PyProof.Rows
namespace Mine
noncomputable def FPost (h₀ : Heap) (L : Addr) (x y : Str) (m₀ : Str → Option Value) (news : List (Addr × Obj)) (r : Int) (s : Shared) (f : Flow) (s₂ : Shared) : Prop := match f with
  | .next => ∃ h' tk' m' t', s₂ = { s with heap := h', toks := tk' } ∧ Fr h₀ L h' m' ∧ News h₀ L h' news ∧ m' y = some (.int r t') ∧ (∀ z, z ≠ x → z ≠ y → m' z = m₀ z)
  | _ => False
theorem FPost.intro {h₀ : Heap} {L : Addr} {x y : Str} {m₀ : Str → Option Value} {news : List (Addr × Obj)} {r : Int} {s : Shared} {h' : Heap} {tk' : Nat} {m' : Str → Option Value} {t' : Tok} (F : Fr h₀ L h' m') (N : News h₀ L h' news) (e : m' y = some (.int r t')) (hm : ∀ z, z ≠ x → z ≠ y → m' z = m₀ z) :
    FPost h₀ L x y m₀ news r s .next { s with heap := h', toks := tk' } := ⟨h', tk', m', t', rfl, F, N, e, hm⟩
section
variable {prog : Program} {w : World} {A : Around} {E : Value → Shared → Prop} {s : Shared} {env : Env}
theorem loopF {h₀ : Heap} {x y : Str} {px : Pos} {body : List Stmt} {Q : Flow → Shared → Prop} {l : Addr} {vs : List Value} {ns : List Int} {cap : Nat} {a₀ : Int} {ta : Tok} {m₀ : Str → Option Value} {news : List (Addr × Obj)} (g : Int → Int → Int)
    (hh : A.handled = none) (hm : (l, W.listOf vs.toArray cap) ∈ news) (hi : IntsAre vs ns) (F : Fr h₀ env.locals s.heap m₀) (N : News h₀ env.locals s.heap news) (hx : env.kindOf x = some .local) (hy : m₀ y = some (.int a₀ ta)) (hxy : y ≠ x)
    (hp : (env.scope.kind == .class || (env.scope.kind == .module && env.locals != env.globals)) = false)
    (turn : ∀ (k : Int) (t : Tok) (a : Int) (ta : Tok) (own : Addr × Obj) (h : Heap) (tk : Nat),
      Fr h₀ env.locals h (fun z => if z = x then some (.int k t) else if z = y then some (.int a ta) else m₀ z) → News h₀ env.locals h (own :: news) →
      wpC (model prog w) A (execs body env) (FPost h₀ env.locals x y m₀ (own :: news) (g a k) s) (fun _ _ => False) { s with heap := h, toks := tk })
    (done : ∀ (v : Option Value) (t : Tok) (h : Heap) (tk : Nat), Fr h₀ env.locals h (fun z => if z = y then some (.int (ns.foldl g a₀) t) else if z = x then v else m₀ z) → News h₀ env.locals h news → Q .next { s with heap := h, toks := tk }) :
    wpAny (model prog w) A (pyIter (.ref l)) (fun it s₂ => codeC (model prog w) A (.forLoop (.Name x px) it body [] env) (fun r s' => match r with | .ok f => Q f s' | .error e => False) s₂) E s := by
  have mapF : ∀ (m' : Str → Option Value) (v : Option Value) (a : Int) (t : Tok), m' y = some (.int a t) → (∀ z, z ≠ x → z ≠ y → m' z = m₀ z) → (fun z => if z = x then v else m' z) = fun z => if z = x then v else if z = y then some (.int a t) else m₀ z := by
    intro m' v a t h1 h2
    funext z
    by_cases c1 : z = x
    · simp [c1]
    · simp only [if_neg c1]
      by_cases c2 : z = y
      · subst c2; simp [h1]
      · simp only [if_neg c2]; exact h2 z c1 c2
  have mapG : ∀ (m' : Str → Option Value) (a : Int) (t : Tok), m' y = some (.int a t) → (∀ z, z ≠ x → z ≠ y → m' z = m₀ z) → m' = fun z => if z = y then some (.int a t) else if z = x then m' x else m₀ z := by
    intro m' a t h1 h2
    funext z
    by_cases c2 : z = y
    · subst c2; simp [h1]
    · simp only [if_neg c2]
      by_cases c1 : z = x
      · simp [c1]
      · simp only [if_neg c1]; exact h2 z c1 c2
  have hnew : h₀.get? s.heap.objs.size = none := next_is_new F
  have hL : s.heap.objs.size ≠ env.locals := fun e => absurd F.ns.lt (e ▸ Nat.lt_irrefl _)
  have hlt : ∀ p ∈ news, p.1 < s.heap.objs.size := fun p hp => Heap.lt_size (N p hp).1
  have isl : ∀ h', News h₀ env.locals h' news → h'.IsList l vs.toArray := fun h' N' => ⟨_, (N' _ hm).1, rfl, cap, rfl⟩
  have hlen : vs.toArray.size = ns.length := by simp [hi.length]
  refine wpAny_pyIter_list (isl _ N) ?_
  have hit0 : (s.heap.push { cls := .type "list_iterator", data := .fields #[.ref l, .int 0 0] }).IsListIter s.heap.objs.size l 0 := ⟨_, Heap.get?_push_size _ rfl, rfl, rfl⟩
  have hli : l ≠ s.heap.objs.size := Nat.ne_of_lt (hlt _ hm)
  generalize s.heap.objs.size = it at *
  refine codeC_forLoop
    (fun k s' => ∃ h' tk m' i t, s' = { s with heap := h', toks := tk } ∧ h'.IsListIter it l i ∧ Fr h₀ env.locals h' m' ∧ News h₀ env.locals h' news ∧ m' y = some (.int ((ns.take i).foldl g a₀) t) ∧ (∀ z, z ≠ x → z ≠ y → m' z = m₀ z) ∧ i ≤ ns.length ∧ k = ns.length + 1 - i)
    ?_ (ns.length + 1) ⟨_, _, m₀, 0, ta, rfl, hit0, F.push _, fun p hp => ⟨Heap.get?_push_of_some _ (N p hp).1, (N p hp).2⟩, by simpa using hy, fun _ _ _ => rfl, Nat.zero_le _, rfl⟩
  intro k s' hI
  refine hidG fun hn => ?_
  obtain ⟨h', tk, m', i, t, rfl, hit, F', N', hy', hm', hile, rfl⟩ := hI
  refine hn.ex ?_
  clear hn
  by_cases hlt' : i < ns.length
  · have hi2 : i < vs.toArray.size := by omega
    obtain ⟨kk, tk', hv, hk⟩ := IntsAre.at hi i (vs.toArray[i]) (by simp)
    refine wpAny_pyNext_list_item hit (isl _ N') (x := vs.toArray[i]) (by simp) fun h₁ hit₁ hs₁ => ?_
    have ns₁ : h₁.Ns env.locals m' := F'.ns.sameBut hs₁ (Ne.symm hL)
    refine wpAny_assign_Name (wpAny_storeName_local hx ns₁ (fun h₂ hn₂ hs₂ => ?_) hp)
    have F₁ : Fr h₀ env.locals h₁ m' := ⟨ns₁, fun b o e => (hs₁.2 b (fun q => by rw [q, hnew] at e; cases e)).trans (F'.keep b o e), F'.above⟩
    have F₂ := F₁.set hn₂ hs₂
    have hit₂ : h₂.IsListIter it l (i + 1) := by
      obtain ⟨o, ho, hc, hd⟩ := hit₁
      exact ⟨o, (hs₂.2 it hL).trans ho, hc, hd⟩
    obtain ⟨oI, hoI, hcI, hdI⟩ := hit₂
    have N₂ : News h₀ env.locals h₂ ((it, oI) :: news) := by
      intro p hp
      rcases List.mem_cons.mp hp with rfl | hp
      · exact ⟨hoI, hL, hnew⟩
      · exact ⟨(hs₂.2 _ (N' p hp).2.1).trans ((hs₁.2 _ (Nat.ne_of_lt (hlt p hp))).trans (N' p hp).1), (N' p hp).2⟩
    rw [hv] at F₂
    rw [mapF m' _ _ _ hy' hm'] at F₂
    refine wpC_mono (turn kk tk' _ t _ h₂ _ F₂ N₂) (fun f s₃ h₃ => ?_) fun _ _ e => e
    cases f with
    | next =>
      refine hidG fun hn => ?_
      obtain ⟨h₄, tk₄, m₄, t₄, rfl, F₄, N₄, hy₄, hm₄⟩ := h₃
      refine hn.ex ⟨ns.length + 1 - (i + 1), by omega, h₄, tk₄, m₄, i + 1, t₄, rfl, ⟨oI, (N₄ _ List.mem_cons_self).1, hcI, hdI⟩, F₄, fun p hp => N₄ p (List.mem_cons_of_mem _ hp), ?_, hm₄, hlt', rfl⟩
      rw [hy₄, List.take_add_one, hk]
      simp
    | cont => exact h₃.elim
    | brk => exact h₃.elim
    | ret v => exact h₃.elim
  · have hin : i = ns.length := by omega
    subst hin
    refine wpAny_pyNext_list_end hh hit (isl _ N') (by simp [hlen]) fun h₁ he₁ => ?_
    have F₁ : Fr h₀ env.locals h₁ m' := ⟨F'.ns.extBut he₁ (Ne.symm hL), fun b o e => he₁ b o (fun q => by rw [q, hnew] at e; cases e) (F'.keep b o e), F'.above⟩
    have N₁ : News h₀ env.locals h₁ news := fun p hp => ⟨he₁ _ _ (Nat.ne_of_lt (hlt p hp)) (N' p hp).1, (N' p hp).2⟩
    rw [List.take_length] at hy'
    rw [mapG m' _ _ hy' hm'] at F₁
    exact done _ _ h₁ tk F₁ N₁
end
end Mine
end
section
open PySem PySem.W PySem.Spec PySem.Calls PyProof.Rows
namespace Mine
theorem rows_LawP8 : True := by
  k_with_none
  w_top off
  k_with "ktr_room" => (first | exact rmK (k := 0) (by assumption) (by decide) | exact rmK (k := 1) (by assumption) (by decide) | exact rmK (k := 2) (by assumption) (by decide) | exact rmK (k := 3) (by assumption) (by decide) | exact rmK (k := 4) (by assumption) (by decide) | exact rmK (k := 5) (by assumption) (by decide) | exact rmK (k := 6) (by assumption) (by decide) | exact rmK (k := 7) (by assumption) (by decide) | exact rmK (k := 8) (by assumption) (by decide) | exact rmK (k := 9) (by assumption) (by decide))
  k_with "ktr_units" => (first | exact rmK (k := 0) (by assumption) (by decide) | exact rmK (k := 1) (by assumption) (by decide) | exact rmK (k := 2) (by assumption) (by decide) | exact rmK (k := 3) (by assumption) (by decide) | exact rmK (k := 4) (by assumption) (by decide) | exact rmK (k := 5) (by assumption) (by decide) | exact rmK (k := 6) (by assumption) (by decide) | exact rmK (k := 7) (by assumption) (by decide) | exact rmK (k := 8) (by assumption) (by decide) | exact rmK (k := 9) (by assumption) (by decide) | exact rmK (k := 10) (by assumption) (by decide) | exact rmK (k := 12) (by assumption) (by decide) | exact rmK (k := 13) (by assumption) (by decide) | exact rmK (k := 14) (by assumption) (by decide) | exact rmK (k := 15) (by assumption) (by decide) | exact rmK (k := 16) (by assumption) (by decide) | exact rmK (k := 17) (by assumption) (by decide) | exact rmK (k := 18) (by assumption) (by decide) | exact rmK (k := 20) (by assumption) (by decide) | exact rmK (k := 21) (by assumption) (by decide) | exact rmK (k := 22) (by assumption) (by decide) | exact rmK (k := 23) (by assumption) (by decide) | exact rmK (k := 24) (by assumption) (by decide) | exact rmK (k := 25) (by assumption) (by decide) | exact rmK (k := 26) (by assumption) (by decide) | exact rmK (k := 30) (by assumption) (by decide) | exact rmK (k := 32) (by assumption) (by decide) | exact rmK (k := 33) (by assumption) (by decide) | exact rmK (k := 34) (by assumption) (by decide) | exact rmK (k := 36) (by assumption) (by decide) | exact rmK (k := 64) (by assumption) (by decide) | exact rmK (k := 65) (by assumption) (by decide) | exact rmK (k := 66) (by assumption) (by decide) | exact rmK (k := 68) (by assumption) (by decide))
  trivial
open Fl
theorem mul10_cl {prog : Program} {w : World} {A : Around} {E : Value → Shared → Prop} {s : Shared} {n : Int} {t u : Tok} {Q : Value → Shared → Prop}
    (h : Q (.int (10 * n) s.toks) { s with toks := s.toks + 1 }) : wpAny (model prog w) A (binaryOp .Mult (.int 10 t) (.int n u)) Q E s :=
  PyProof.Rows.mul_int h (IntMulOk.of_left (PySem.intBits_le_64 (by decide) (by decide)))
theorem rows_LawP8_0 : True := by
  k_with "subscriptTail Name Slice ref ref" => ((k_here; (with_reducible show wpAny _ _ (subscriptTail _ (PySem.Expr.Slice _ _ none _) (Value.ref _) (Value.ref _)) _ _ _); (try dsimp only); k_dflt (refine' slice_i ?F9z ?N9z ?l9z ?p9z ?q9z ?i9z ?m9z ?c9z ?_ ?s9z ?t9z ?z9z; (case F9z => k_asm); (case N9z => k_asm); (case l9z => first | kmk_list | exact isListLit (by k_asm) (by k_mem)); (case p9z => kmk_part); (case q9z => kmk_part); (case i9z => assumption); (case m9z => exact kmk_run (by assumption) (by omega) (by omega)); (case c9z => exact rfl); (case s9z => with_unfolding_all rfl); (case t9z => kmk_pure); (case z9z => kmk_size)); intro D' ws' h' F' N' l1 hI' hC' hL'; (try simp only [Int.reduceNeg, Int.neg_neg, Int.reduceToNat] at hI' hC' hL'); (try k_lt l1); (try k_sweep)))
  k_with "binaryOp Mult int int" => ((k_here; (with_reducible show wpAny _ _ (binaryOp Operator.Mult (Value.int 10 _) (Value.int _ _)) _ _ _); (refine mul10_cl ?_); (try dsimp only)))
  k_with "k_steps" => (repeat' (first | (k_unfold; (try dsimp only)) | (k_end; wrow_close) | ((with_reducible show wpAny _ _ (subscriptTail _ _ _ _) _ _ _); walk1) | ((try dsimp only); walk1) | walk1 | (leave1; walk_say "STEP leave1"; try dsimp only) | fail "no step"))
  trivial
theorem p8list {ns : List Int} {n th fo : Nat} (h : ns.length = n) (hf : fo ≤ n) : List.take (min ((fo : Int)).toNat ns.length - ((th : Int) + 1).toNat) (List.drop ((th : Int) + 1).toNat ns) = (ns.drop (th + 1)).take (fo - (th + 1)) := by
  have e1 : ((fo : Int)).toNat = fo := by omega
  have e2 : ((th : Int) + 1).toNat = th + 1 := by omega
  rw [e1, e2, h, Nat.min_eq_left hf]
section
variable {w : World} {mean : ExcName → Option Value} {mg mb : Str → Option Value} {dp un : Nat} {gd : Option (List Code)} {a : Addr} {ccd : Value} {outer : List Env} {A₀ : Around} {base h₀ hV : Heap} {L : Addr} {s : Shared} {Q : Flow → Shared → Prop} {E : Value → Shared → Prop} {cF cO c1 cC : Addr}
  (V : LooseAre looseV mg hV) (hB : Below A₀ base outer h₀) (KX : (hd.heap_39 w.params).In h₀) (T : Top hd.view_39 (looseW hd.view_39 looseN) mean mg mb h₀)
  (hdp : dp + 9 < recursionLimit) (hun : un + 100 < cLine)
include V hB KX T hdp hun
theorem law_p8 {CL DP D : Addr} {c f e1 e2 : Int} {n th fo : Nat} {u1 u2 u3 tt : Tok} {u : Str → Option Value} {ys : List Value} {ns : List Int} {rest : List (Addr × Obj)} (hI : IntsAre ys ns) (hlen : ns.length = n) (hn : n ≤ 66) (hth : th ≤ 66) (hfo : fo ≤ 66) (hfn : fo ≤ n)
    (F : Fr h₀ L s.heap (fmu [(S "places", .ref DP), (S "colours", .ref CL), (S "text", .str (textOf c f e1 e2 n) tt), (S "walk", .ref D), (S "size", .int (n : Int) u3), (S "fourth", .int (fo : Int) u2), (S "third", .int (th : Int) u1)] u))
    (N : News h₀ L s.heap ((DP, LCg.lst ys) :: rest))
    (hret : ∀ (h' : Heap) (tk' : Nat) (tp : Tok) (u' : Str → Option Value),
      Fr h₀ L h' (fmu [(S "port", .int (((ns.drop (th + 1)).take (fo - (th + 1))).foldl (fun a b => 10 * a + b) 0) tp), (S "places", .ref DP), (S "colours", .ref CL), (S "text", .str (textOf c f e1 e2 n) tt), (S "walk", .ref D), (S "size", .int (n : Int) u3), (S "fourth", .int (fo : Int) u2), (S "third", .int (th : Int) u1)] u') →
      News h₀ L h' ((DP, LCg.lst ys) :: rest) → Q .next { s with heap := h', toks := tk' }) :
    wpC (model Challenge.rw_pg0104_01.row.prog w) (ktrTop dp un gd (S "law") lawS L a ccd (lawCl cF cO c1 cC) outer) (execs ((lawRec.body.drop 16).take 2) (envX (S "law") lawS L a ccd (lawCl cF cO c1 cC))) Q E s := by
  revert KX; k_fill; intro KX
  dsimp only [lawRec, dOf, List.take, List.drop]
  refine wpC_execs_cons (wpC_of ?_)
  (try k_fold)
  k_steps
  refine wpC_execs_cons (wpC_For ?_)
  k_steps
  rename IntsAre _ _ => lI9
  refine loopF (fun a b => 10 * a + b) rfl List.mem_cons_self lI9 (by assumption) (by assumption) (by rfl) (y := S "port") (by rfl) (by decide) (by rfl) ?kt ?kd
  case kt =>
    intro k t a ta own h tk F' N'
    refine wpC_of ?_
    k_steps
    refine FPost.intro (by assumption) (by assumption) (by rfl) ?_
    intro z h1 h2
    have h3 : ¬ z = Str.ofString "port" := h2
    have h4 : ¬ z = Str.ofString "place" := h1
    simp only [if_neg h3, if_neg h4, if_neg h2]
  case kd =>
    intro v t h tk F' N'
    dsimp only
    k_steps
    rw [p8list hlen hfn] at F'
    refine wpC_of (wpAny_execs_nil ?_)
    refine hret _ _ _ _ (frEq F' (m' := fmu [(S "port", .int (((ns.drop (th + 1)).take (fo - (th + 1))).foldl (fun a b => 10 * a + b) 0) t), (S "places", .ref DP), (S "colours", .ref CL), (S "text", .str (textOf c f e1 e2 n) tt), (S "walk", .ref D), (S "size", .int (n : Int) u3), (S "fourth", .int (fo : Int) u2), (S "third", .int (th : Int) u1)] (fun y => if y = S "place" then v else u y)) ?_) (newsSub (List.Sublist.cons _ (List.Sublist.refl _)) N')
    intro z
    by_cases e1 : z = S "port"
    · subst e1; rfl
    by_cases e2 : z = S "place"
    · subst e2; rfl
    simp only [fmu, if_neg e1, if_neg e2]
end
end Mine
end
section
open PySem PySem.W PySem.Spec PySem.Calls PyProof.Rows
namespace Mine
section
variable {prog : Program} {w : World} {A₀ A : Around} {s : Shared} {base h₀ g₀ : Heap} {outer : List Env} {L : Addr} {env : Env} {m : Str → Option Value} {news : List (Addr × Obj)} {K : Frag} {p : Program} {loose : List Str} {mean : ExcName → Option Value} {mg mb : Str → Option Value}
    {R : Result → Shared → Prop} {name qual : Str} {params : Arguments} {body : List Stmt} {scope : Scope} {dV kV doc pm cdv ct oc : Value} {an od : Option Addr} {osl : Array (Option Value)} {f : Addr} {args : Args} {binds : List (Str × Value)}

theorem memX {b : Addr} (hf : env.frame = some L) (hm : b ∈ (env :: outer).filterMap (·.frame)) : b = L ∨ b ∈ outer.filterMap (·.frame) := by
  obtain ⟨e, he, hq⟩ := List.mem_filterMap.mp hm
  rcases List.mem_cons.mp he with rfl | he
  · rw [hf] at hq; exact .inl (Option.some.inj hq).symm
  · exact .inr (List.mem_filterMap.mpr ⟨e, he, hq⟩)

theorem pushX {h : Heap} (B : Below A₀ base outer h₀) (F : Fr h₀ L h m) (hf : env.frame = some L) (hck : env.scope.kind = .function) : h.FunFrames base (env :: outer) := by
  have hnew : base.get? L = none := by
    cases hq : base.get? L with
    | none => rfl
    | some o => exact absurd (Nat.lt_of_lt_of_le (Heap.lt_size (B.stays L o hq)) F.above) (Nat.lt_irrefl _)
  exact .cons (by rw [hck]; decide) hf F.ns hnew (B.frames.of_keeps fun b o e _ => ⟨o, F.keep b o e, rfl⟩)

theorem enterX (B : Below A₀ base outer h₀) (F : Fr h₀ L s.heap m) (N : News h₀ L s.heap news) (hA : A.frames = some (env :: outer)) (hf : env.frame = some L) (hck : env.scope.kind = .function) :
    ∃ oL es ep, (hideAll s.heap (news.map (·.1))).get? L = some oL ∧ oL.data = .dict es ep ∧ (∀ h', h'.get? L = some oL → Heap.Ns h' L m) ∧ (∀ (sl : Array (Option Value)) h', h'.get? L = some { oL with slots := sl } → Heap.Ns h' L m) ∧
      h₀.StaysIn (hideAll s.heap (news.map (·.1))) ∧ Below A base (env :: outer) (hideAll s.heap (news.map (·.1))) := by
  have nm : ∀ b o, h₀.get? b = some o → b ∉ news.map (·.1) := fun b o e q => by
    obtain ⟨p, hp, rfl⟩ := List.mem_map.mp q
    rw [(N p hp).2.2] at e; cases e
  have st : h₀.StaysIn (hideAll s.heap (news.map (·.1))) := fun b o e => hideAll_get _ (F.keep b o e) (nm b o e)
  obtain ⟨oL, es, ep, hL, hLd, hLk, hLf⟩ := F.ns
  have nL : L ∉ news.map (·.1) := fun q => by
    obtain ⟨p, hp, e⟩ := List.mem_map.mp q
    exact (N p hp).2.1 e
  have hLg := hideAll_get (news.map (·.1)) hL nL
  have B₁ := pushX B F hf hck
  exact ⟨oL, es, ep, hLg, hLd, fun h' e => ⟨oL, es, ep, e, hLd, hLk, hLf⟩, fun sl h' e => ⟨_, es, ep, e, hLd, hLk, hLf⟩, st, ⟨hA, fun b o e => st b o (B.stays b o e), funFrames_hideAll B₁ fun env' he b hb hq => by
    cases he with
    | head => rw [hf] at hq; exact nL ((Option.some.inj hq : L = b) ▸ hb)
    | tail _ he =>
      obtain ⟨L₁, o₁, hf₁, ho₁⟩ := funFrames_in B.frames env' he
      rw [hf₁] at hq
      exact nm L₁ o₁ ho₁ ((Option.some.inj hq : L₁ = b) ▸ hb)⟩⟩

theorem code_defX (B : Below A₀ base [] h₀) (F : Fr h₀ L s.heap m) (X₀ : K.In h₀) (N : News h₀ L s.heap news) (T : Top p loose mean mg mb h₀) (hA : A.frames = some [env]) (hf : env.frame = some L) (hck : env.scope.kind = .function)
    (ho : K.lookup f = some ⟨oc, od, .func (fnOf name qual params body scope dV kV doc pm an cdv ct), osl⟩) (hcd : codeIn K cdv qual = true) (hroom : A.depth < recursionLimit)
    (hbind : BindsTo s (fnOf name qual params body scope dV kV doc pm an cdv ct) args binds) (hloc : ∀ y ∈ binds, scope.names.lookup y.1 = some .local)
    (h : ∀ g L' h₁, Fr h₀ L g m → Fr g L' h₁ (fun y => binds.reverse.lookup y) → News g L' h₁ news → Below A base [env] g → K.In g → Top p loose mean mg mb g → KtsDicts ([env].filterMap (·.frame)) g →
      wpAny (model prog w) (A.deeper (envOf qual scope L' f cdv)) (execs body (envOf qual scope L' f cdv))
        (fun fl s' => LeaveS0 ([env].filterMap (·.frame)) h₀ L m g R (match fl with | .ret v => v | _ => .none) s')
        (fun e s' => wpAny (model prog w) (A.deeper (envOf qual scope L' f cdv)) (leaving (envOf qual scope L' f cdv) e) (fun _ s'' => R (.error e) s'') (fun e' s'' => R (.error e') s'') s')
        { s with heap := h₁, toks := s.toks + binds.length })
    (hco : scope.isCoroutine = false) (hgen : scope.isGenerator = false) (hk : scope.kind = .function)
    (hcell : ∀ x ∈ scope.names, x.2 ≠ .cell) : codeAny (model prog w) A (.call (.ref f) args) R s := by
  have X := X₀.keeps F.keep
  refine codeAny_call_def (fd := fnOf name qual params body scope dV kV doc pm an cdv ct) (body := body) (binds := binds) hroom (X _ _ ho) rfl (T.nolimit.keeps F.keep) (codeRec_of X hcd) rfl hbind hcell hloc (fun h₁ hns hk₁ => ?_) hco hgen hk
  obtain ⟨oL, es, ep, hLg, hLd, hN, hNs, st, B₂⟩ := enterX B F N hA hf hck
  refine wpAny_mono (h _ s.heap.objs.size h₁ ⟨hN _ hLg, st, F.above⟩ ⟨hns, fun b o e => hk₁ b o (of_hideAll _ e), Nat.le_of_eq (hideAll_size _ _)⟩
    (fun p hp => ⟨hk₁ _ _ (N p hp).1, Nat.ne_of_lt (Heap.lt_size (N p hp).1), hideAll_none _ (List.mem_map_of_mem hp)⟩) B₂ (X₀.keeps st) (T.keeps st) (fun b hb => by
      rcases memX hf hb with rfl | z
      · exact ⟨oL, es, ep, hLg, hLd⟩
      · simp at z)) (fun fl s' hl => ?_) fun _ _ y => y
  obtain ⟨g', L', m', news', T', F', N', k⟩ := hl
  have nL₀ : h₀.get? L = none := kts_self F
  obtain ⟨sl, hs⟩ := T'.up hLg
  refine k ⟨hNs sl _ (F'.keep _ _ hs), fun b o e => F'.keep b o (T'.other b o (st b o e) (fun q => by
    rcases memX hf q with z | z
    · rw [z, nL₀] at e
      cases e
    · simp at z)), F.above⟩ fun p hp => ⟨(N' p hp).1, fun q => ?_, ?_⟩
  · have := (N' p hp).2.2; rw [q, hs] at this; cases this
  · cases q : h₀.get? p.1 with
    | none => rfl
    | some o =>
      obtain ⟨sl', hs'⟩ := T'.up (st _ _ q)
      have := (N' p hp).2.2
      rw [hs'] at this
      cases this
end
end Mine
end
section
open PySem PySem.W PySem.Spec PySem.Calls PyProof.Rows
namespace Mine
theorem bs_bind (self : Value) : bindSpecial (.builtin "BaseException.__str__") self = pure (.builtin "BaseException.__str__", [self]) := PySem.F.excStr_Exception.str.bind self
theorem bs_plain : plainId "BaseException.__str__" = true := by decide +kernel
theorem bs_kind : builtinKind "BaseException.__str__" = some .slot := by decide +kernel
theorem bs_split : splitId "BaseException.__str__" = some ("BaseException", "__str__") := by decide +kernel

section
variable {prog : Program} {w : World} {A : Around} {E : Value → Shared → Prop} {s : Shared} {K : Frag} {C e t0 : Addr} {oe : Obj} {ws : Array Value} {m : Str} {u : Tok}

theorem bexcOwn {Q : PySem.Fin → Shared → Prop} (ho : s.heap.get? e = some oe) (hd : oe.data = .fields ws) (h0 : ws[0]? = some (.ref t0)) (ht : s.heap.TupAt t0 [.str m u]) (hq : Q (.done (.ret (.str m u))) s) :
    wpAny (model prog w) A (Builtin.«BaseException.__str__» ⟨[.ref e], []⟩) Q E s := by
  have hb : ∀ {Q' : Value × List Value → Shared → Prop}, Q' (.ref t0, [.str m u]) s → wpAny (model prog w) A (Builtin.BaseException.bexcArgs (.ref e)) Q' E s := fun {Q'} hq' => by
    obtain ⟨ot, k, hto, _, htd⟩ := ht
    unfold Builtin.BaseException.bexcArgs
    refine wpAny_bind (wpAny_field ho hd h0 (wpAny_bind (wpAny_seqItems hto htd ?_)))
    exact wpAny_pure hq'
  unfold Builtin.«BaseException.__str__»
  repeat (first | with_reducible refine hb ?_ | wp_step)
  exact hq

theorem strOfOwn {Q : Value → Shared → Prop} (hu : A.units < cLine) (X : K.In s.heap) (ho : s.heap.get? e = some oe) (hc : oe.cls = .ref C) (hd : oe.data = .fields ws) (h0 : ws[0]? = some (.ref t0)) (ht : s.heap.TupAt t0 [.str m u])
    (hs : findIn K (.ref C) "__str__" = some (some (.builtin "BaseException.__str__"))) (hsub : subIn K (.ref C) (.type "BaseException") = some true) (hq : Q (.str m u) s) :
    wpAny (model prog w) A (PySem.Builtin.Str.strOf (.ref e)) Q E s := by
  have t1 : Looks (model prog w) s.heap (typeOf (.ref e)) (.ref C) := by
    rw [← hc]
    exact (Looks.ld ho).andThen .now
  have t2 : Looks (model prog w) s.heap (isInstance (.ref e) (.type "BaseException")) true := t1.andThen (looks_subIn X hsub)
  unfold PySem.Builtin.Str.strOf
  rw [show Builtin.Str.isExactStr (.ref e) = false from rfl]
  refine wpAny_bind (m := cRoomFor _ _) (wpAny_cRoomFor hu ?_)
  refine wpAny_bind (m := callSpecial? (.ref e) (Str.ofString "__str__")) ?_
  refine wpAny_bind (wpAny_bind (t1.here ((looks_findIn X hs).here (wpAny_holding (wpAny_bind ((Looks.of_pure (bs_bind _)).here (wpAny_bind ?_)))))))
  refine wpAny_call (codeAny_call_builtin bs_plain PySem.F.entry_bexc_str (@check_slot (model prog w) _ _ _ "BaseException.__str__" "BaseException" "__str__" (.ref e) [] [] _ bs_kind bs_split t2 (PySem.F.args_bexc_str _) ?_))
  refine bexcOwn ho hd h0 ht ?_
  exact wpAny_pure (wpAny_pure hq)

theorem strOwn {Q : Value → Shared → Prop} (hu : A.in1.in1.units < cLine) (X : K.In s.heap) (ho : s.heap.get? e = some oe) (hc : oe.cls = .ref C) (hd : oe.data = .fields ws) (h0 : ws[0]? = some (.ref t0)) (ht : s.heap.TupAt t0 [.str m u])
    (hs : findIn K (.ref C) "__str__" = some (some (.builtin "BaseException.__str__"))) (hsub : subIn K (.ref C) (.type "BaseException") = some true) (hq : Q (.str m u) s) :
    wpAny (model prog w) A (call (.type "str") [.ref e]) Q E s := by
  refine callType_codes (T := "str") (Bi := Builtin.«object.__init__») (Q₁ := fun r s₁ => ∃ y u, r = .str y u ∧ Q r s₁) PySem.F.called_str (PySem.F.typeCall_str_1 _) PySem.F.entry_object_init ?_ ?_
  · refine codeAny_of_tree ?_
    show wpAny _ A.in1.in1 (do checkBuiltinCall "str.__new__" ⟨[.type "str", .ref e], []⟩; again (.builtin "str.__new__" ⟨[.type "str", .ref e], []⟩)) _ _ s
    refine wpAny_bind (wpAny_of_eq (PySem.F.newCall_str_1 _) (wpAny_pure ⟨plainId_quiet (by decide +kernel) _, codeAny_builtin PySem.F.entry_str_new ?_⟩))
    rw [Around.under_plainId (by decide +kernel) _]
    rw [PySem.str_new_tree]
    refine wpAny_bind (wpAny_pure ?_)
    refine wpAny_bind (wpAny_of_eq isSubtype_str_str ?_)
    refine wpAny_bind (strOfOwn hu X ho hc hd h0 ht hs hsub ?_)
    exact wpAny_pure ⟨_, _, rfl, hq⟩
  · rintro obj s₁ ⟨y, u', rfl, hq⟩
    exact ⟨typeIs_str _ _ _, PySem.F.args_object_init_2 _ _, object_init_meets PySem.F.called_str.init.lookup PySem.F.called_str.made (by decide) prog w A.in1 _ s₁ ⟨typeIs_str _ _ _, rfl, hq⟩⟩

theorem strGot {h₀ : Heap} {L : Addr} {news : List (Addr × Obj)} {Q : Value → Shared → Prop} (hu : A.in1.in1.units < cLine) (X₀ : K.In h₀) {mm : Str → Option Value} (F : Fr h₀ L s.heap mm) (N : News h₀ L s.heap news) (G : Got news e t0 (.ref C) [.str m u])
    (hs : findIn K (.ref C) "__str__" = some (some (.builtin "BaseException.__str__"))) (hsub : subIn K (.ref C) (.type "BaseException") = some true) (hq : Q (.str m u) s) :
    wpAny (model prog w) A (call (.type "str") [.ref e]) Q E s := by
  obtain ⟨oe, ot, ws, nt, h1, h2, hc, hd, h0, htc, htd⟩ := G
  exact strOwn hu (X₀.keeps F.keep) (N.get h1) hc hd h0 ⟨ot, nt, N.get h2, htc, htd⟩ hs hsub hq
end
end Mine
end
section
open PySem PySem.W PySem.Spec PySem.Calls PyProof.Rows
namespace Mine
theorem rows_ParC : True := by
  k_with_none
  w_top off
  k_with "storeName" => ((k_here; k_dflt (refine' storeL9 ?F9z ?N9z ?_ ?a9z ?b9z; (case F9z => k_asm); (case N9z => k_asm); (case a9z => rfl); (case b9z => rfl); k_whole; intro h' m' F' N'; (try k_sweep))))
  k_with "ktr_room" => (first | exact rmK (k := 0) (by assumption) (by decide) | exact rmK (k := 1) (by assumption) (by decide) | exact rmK (k := 2) (by assumption) (by decide) | exact rmK (k := 3) (by assumption) (by decide) | exact rmK (k := 4) (by assumption) (by decide) | exact rmK (k := 5) (by assumption) (by decide) | exact rmK (k := 6) (by assumption) (by decide) | exact rmK (k := 7) (by assumption) (by decide) | exact rmK (k := 8) (by assumption) (by decide) | exact rmK (k := 9) (by assumption) (by decide))
  k_with "ktr_units" => (first | exact rmK (k := 0) (by assumption) (by decide) | exact rmK (k := 1) (by assumption) (by decide) | exact rmK (k := 2) (by assumption) (by decide) | exact rmK (k := 3) (by assumption) (by decide) | exact rmK (k := 4) (by assumption) (by decide) | exact rmK (k := 5) (by assumption) (by decide) | exact rmK (k := 6) (by assumption) (by decide) | exact rmK (k := 7) (by assumption) (by decide) | exact rmK (k := 8) (by assumption) (by decide) | exact rmK (k := 9) (by assumption) (by decide) | exact rmK (k := 10) (by assumption) (by decide) | exact rmK (k := 12) (by assumption) (by decide) | exact rmK (k := 13) (by assumption) (by decide) | exact rmK (k := 14) (by assumption) (by decide) | exact rmK (k := 15) (by assumption) (by decide) | exact rmK (k := 16) (by assumption) (by decide) | exact rmK (k := 17) (by assumption) (by decide) | exact rmK (k := 18) (by assumption) (by decide) | exact rmK (k := 20) (by assumption) (by decide) | exact rmK (k := 21) (by assumption) (by decide) | exact rmK (k := 22) (by assumption) (by decide) | exact rmK (k := 23) (by assumption) (by decide) | exact rmK (k := 24) (by assumption) (by decide) | exact rmK (k := 25) (by assumption) (by decide) | exact rmK (k := 26) (by assumption) (by decide) | exact rmK (k := 30) (by assumption) (by decide) | exact rmK (k := 32) (by assumption) (by decide) | exact rmK (k := 33) (by assumption) (by decide) | exact rmK (k := 34) (by assumption) (by decide) | exact rmK (k := 36) (by assumption) (by decide) | exact rmK (k := 64) (by assumption) (by decide) | exact rmK (k := 65) (by assumption) (by decide) | exact rmK (k := 66) (by assumption) (by decide) | exact rmK (k := 68) (by assumption) (by decide))
  trivial
structure RepF (R I : Str) (k : Nat) (ca cb : Nat) : Prop where
  r0 : (Txt.slice R none (some 3) != Str.ofString "229") = false
  r1 : Txt.find R (Str.ofString "(") = 4
  r2 : Txt.find3 R (Str.ofString ")") 5 = (k : Int)
  r3 : Txt.item R 5 = ⟨#[ca]⟩
  r4 : Txt.item R ((k : Int) - 1) = ⟨#[cb]⟩
  r5 : Txt.slice R (some 5) (some (k : Int)) = I
  r6 : 6 ≤ k
  r7 : k ≤ R.length
  r8 : R.length ≤ 200
section
variable {prog : Program} {w : World} {A : Around} {E : Value → Shared → Prop} {s : Shared} {R I : Str} {k ca cb : Nat} {t u v : Tok} {Q : Value → Shared → Prop}
theorem find_r (P : RepF R I k ca cb) (h : Q (.int 4 s.toks) { s with toks := s.toks + 1 }) : wpAny (model prog w) A (call (.builtin "str.find") [.str R t, .str (Str.ofString "(") u]) Q E s :=
  SC.find (by rw [P.r1]; exact h)
theorem find3_r {i : Int} (P : RepF R I k ca cb) (e : i = 5) (h : Q (.int (k : Int) s.toks) { s with toks := s.toks + 1 }) : wpAny (model prog w) A (call (.builtin "str.find") [.str R t, .str (Str.ofString ")") u, .int i v]) Q E s := by
  subst e
  exact SC.find3 (by rw [P.r2]; exact h)
theorem item5_r {value slice : PySem.Expr} {i : Int} (P : RepF R I k ca cb) (e : i = 5) (h : Q (.str ⟨#[ca]⟩ s.toks) { s with toks := s.toks + 1 })
    (hs : subscripted slice false (.str R t) (.int i u) = operate [.str R t, .int i u] (getItem (.str R t) (.int i u)) := by with_unfolding_all rfl)
    (ht : ∀ r, letTemporaryGo value (.str R t) r = pure () := by intro _; with_unfolding_all rfl) : wpAny (model prog w) A (subscriptTail value slice (.str R t) (.int i u)) Q E s := by
  have := P.r6; have := P.r7
  subst e
  exact item_str (by decide) (by omega) (by omega) (fun _ => by rw [P.r3]; exact h) hs ht
theorem itemk_r {value slice : PySem.Expr} {i : Int} (P : RepF R I k ca cb) (e : i = (k : Int) - 1) (h : Q (.str ⟨#[cb]⟩ s.toks) { s with toks := s.toks + 1 })
    (hs : subscripted slice false (.str R t) (.int i u) = operate [.str R t, .int i u] (getItem (.str R t) (.int i u)) := by with_unfolding_all rfl)
    (ht : ∀ r, letTemporaryGo value (.str R t) r = pure () := by intro _; with_unfolding_all rfl) : wpAny (model prog w) A (subscriptTail value slice (.str R t) (.int i u)) Q E s := by
  have := P.r6; have := P.r7; have := P.r8
  subst e
  exact item_str (fitsSsize_of (N := 9223372036854775808) (by omega) (by omega) (Int.le_refl _)) (by omega) (by omega) (fun _ => by rw [P.r4]; exact h) hs ht
theorem slice_r {value slice : PySem.Expr} {h₀ : Heap} {L : Addr} {m : Str → Option Value} {news : List (Addr × Obj)} {i j : Int} {ui uj : Tok} (P : RepF R I k ca cb) (e1 : i = 5) (e2 : j = (k : Int)) (hF : Fr h₀ L s.heap m) (hN : News h₀ L s.heap news) (h : ∀ h' t' q, Fr h₀ L h' m → News h₀ L h' news → Q (.str I t') { s with heap := h', toks := q })
    (hs : subscripted slice false (.str R t) (.ref s.heap.objs.size) = operate [.ref s.heap.objs.size, .str R t] (getItem (.str R t) (.ref s.heap.objs.size)) := by with_unfolding_all rfl)
    (ht : ∀ r, letTemporaryGo value (.str R t) r = pure () := by intro _; with_unfolding_all rfl) :
    wpAny (model prog w) A (subscriptTail value slice (.str R t) (.ref s.heap.objs.size)) Q E { s with heap := s.heap.push { cls := .type "slice", data := .fields #[.int i ui, .int j uj, .none] } } := by
  subst e1; subst e2
  exact slice_strN_ss hF hN (fun h' t' q F' N' => by rw [P.r5]; exact h h' t' q F' N') hs ht (by have := P.r8; rw [sizeLine_eq]; omega)
end
noncomputable def IntOk (I : Str) (ca : Nat) (n : Int) : Prop := ∀ y, (Txt.split I ⟨#[ca]⟩)[3]? = some y → PySem.intText? y = some n ∧ y.length ≤ 640
theorem noFive {R I : Str} {k ca cb : Nat} {l : List (Str × Tok)} (P : RepF R I k ca cb) (h : l.map (·.1) = Txt.split (Txt.slice R (some (4 + 1)) (some (k : Int))) ⟨#[ca]⟩) (hsp : (Txt.split I ⟨#[ca]⟩).length ≠ 5) : ¬ (l.length : Int) = 5 := by
  intro e
  have h2 : l.map (·.1) = Txt.split I ⟨#[ca]⟩ := by rw [h]; exact congrArg (fun q => Txt.split q ⟨#[ca]⟩) P.r5
  have := congrArg List.length h2
  rw [List.length_map] at this
  omega
theorem five {R I : Str} {k ca cb : Nat} {l : List (Str × Tok)} (P : RepF R I k ca cb) (h : l.map (·.1) = Txt.split (Txt.slice R (some (4 + 1)) (some (k : Int))) ⟨#[ca]⟩) (e : (l.length : Int) = 5) : (Txt.split I ⟨#[ca]⟩).length = 5 := by
  have h2 : l.map (·.1) = Txt.split I ⟨#[ca]⟩ := by rw [h]; exact congrArg (fun q => Txt.split q ⟨#[ca]⟩) P.r5
  have := congrArg List.length h2
  rw [List.length_map] at this
  omega
theorem noFive2 {R I : Str} {k ca cb : Nat} {l : List (Str × Tok)} (P : RepF R I k ca cb) (h : l.map (·.1) = Txt.split (Txt.slice R (some (4 + 1)) (some (k : Int))) ⟨#[ca]⟩) (e : (l.length : Int) ≠ 5) : (Txt.split I ⟨#[ca]⟩).length ≠ 5 := by
  have h2 : l.map (·.1) = Txt.split I ⟨#[ca]⟩ := by rw [h]; exact congrArg (fun q => Txt.split q ⟨#[ca]⟩) P.r5
  have := congrArg List.length h2
  rw [List.length_map] at this
  omega
theorem int_r {prog : Program} {w : World} {A : Around} {E : Value → Shared → Prop} {s : Shared} {R I : Str} {k ca cb : Nat} {n : Int} {t : Tok} {Q : Value → Shared → Prop} {l : List (Str × Tok)} {y : Str} (P : RepF R I k ca cb) (hi : IntOk I ca n)
    (h : l.map (·.1) = Txt.split (Txt.slice R (some (4 + 1)) (some (k : Int))) ⟨#[ca]⟩) (hy : (l.map (·.1))[Int.toNat 3]? = some y) (hq : Q (.int n s.toks) { s with toks := s.toks + 1 }) : wpAny (model prog w) A (call (.type "int") [.str y t]) Q E s := by
  have h2 : l.map (·.1) = Txt.split I ⟨#[ca]⟩ := by rw [h]; exact congrArg (fun q => Txt.split q ⟨#[ca]⟩) P.r5
  rw [h2] at hy
  obtain ⟨a, b⟩ := hi y hy
  exact KIN.call_text a b hq
theorem ite_kT' {b : Bool} {P Q : Prop} (hb : b = true) (h : P) : if b = true then P else Q := by rw [if_pos hb]; exact h
theorem ite_kF' {b : Bool} {P Q : Prop} (hb : b = false) (h : Q) : if b = true then P else Q := by rw [if_neg (by rw [hb]; decide)]; exact h
end Mine
end
section
open PySem PySem.W PySem.Spec PySem.Calls PyProof.Rows
namespace Mine
open Builtin.Str
theorem slice_st (x : Str) (l u : Option Int) : Txt.slice x l u = StrLaws.sliceText x l u := rfl
theorem slice_nat (x : Str) {a b : Nat} (hab : a ≤ b) (hb : b ≤ x.length) : Txt.slice x (some (a : Int)) (some (b : Int)) = ⟨((x.cps.toList.drop a).take (b - a)).toArray⟩ := StrLaws.sliceText_nat x hab hb
theorem slice_to (x : Str) {b : Nat} (hb : b ≤ x.length) : Txt.slice x none (some (b : Int)) = ⟨(x.cps.toList.take b).toArray⟩ := by
  have := StrLaws.sliceText_nat x (Nat.zero_le b) hb
  rw [slice_st]
  unfold StrLaws.sliceText at *
  rw [StrLaws.sliceIdx_none_lo]
  simpa using this
theorem slice_from (x : Str) {a : Nat} (ha : a ≤ x.length) : Txt.slice x (some (a : Int)) none = ⟨(x.cps.toList.drop a).toArray⟩ := by
  have := StrLaws.sliceText_nat x ha (Nat.le_refl _)
  rw [slice_st]
  unfold StrLaws.sliceText at *
  rw [StrLaws.sliceIdx_none_hi, this]
  congr 2
  rw [List.take_of_length_le]
  rw [List.length_drop]
  show x.cps.toList.length - a ≤ x.cps.size - a
  rw [Array.length_toList]
  exact Nat.le_refl _
/-- the reply's code points, I between the brackets -/
noncomputable def repL (I : List Nat) : List Nat := [50, 50, 57, 32, 40] ++ I ++ [41, 32, 119, 97, 108, 107, 101, 100]
noncomputable def repS (I : List Nat) : Str := ⟨(repL I).toArray⟩
theorem repL_len (I : List Nat) : (repL I).length = I.length + 13 := by simp [repL]
theorem repS_len (I : List Nat) : (repS I).length = I.length + 13 := by
  show (repL I).toArray.size = _
  rw [List.size_toArray, repL_len]
theorem getD_rep (I : List Nat) (v : Nat) : (repS I).cps.getD v 0 = (repL I).getD v 0 := by
  show ((repL I).toArray).getD v 0 = _
  simp [Array.getD, List.getD]
  split <;> simp_all
theorem rep_pre (I : List Nat) : (repL I).take 3 = [50, 50, 57] := by simp [repL]
theorem rep_mid (I : List Nat) : ((repL I).drop 5).take I.length = I := by simp [repL]
theorem rep_at (I : List Nat) {j : Nat} (hj : j < I.length) : (repL I)[5 + j]? = I[j]? := by
  unfold repL
  rw [List.append_assoc, List.getElem?_append_right (by simp), List.getElem?_append_left (by simp; (first | lia | omega))]
  congr 1
  simp
theorem rep_close (I : List Nat) : (repL I).getD (5 + I.length) 0 = 41 := by
  unfold repL
  rw [List.getD_eq_getElem?_getD, List.append_assoc, List.getElem?_append_right (by simp), List.getElem?_append_right (by simp)]
  simp
theorem from0 (n : Nat) : fromIndex n 0 = 0 := by simp [fromIndex]
theorem find_rep (I : List Nat) : Txt.find (repS I) (Str.ofString "(") = 4 := by
  have e : Str.ofString "(" = ⟨#[40]⟩ := by decide +kernel
  have e2 : Txt.find (repS I) (Str.ofString "(") = Txt.find3 (repS I) ⟨#[40]⟩ 0 := by
    rw [e]
    unfold Txt.find Txt.find3
    rw [from0]
    rfl
  have l := repS_len I
  rw [e2]
  have g4 : (repS I).cps.getD 4 0 = 40 := by rw [getD_rep]; simp [repL]
  rcases StrLaws.find3_spec (repS I) 40 0 with ⟨_, h⟩ | ⟨k, h1, _, h3, h4, h5⟩
  · exact absurd g4 (h 4 (by rw [from0]; (first | lia | omega)) (by (first | lia | omega)))
  · rw [h1]
    have hk : k = 4 := by
      by_cases c1 : 4 < k
      · exact absurd g4 (h5 4 (by rw [from0]; (first | lia | omega)) c1)
      · rw [getD_rep] at h4
        have : k = 0 ∨ k = 1 ∨ k = 2 ∨ k = 3 ∨ k = 4 := by (first | lia | omega)
        rcases this with rfl | rfl | rfl | rfl | rfl <;> first | rfl | (simp [repL] at h4)
    rw [hk]; rfl
theorem from5 {n : Nat} (h : 5 ≤ n) : fromIndex n 5 = 5 := by
  unfold fromIndex
  first | (first | lia | omega) | (simp; (first | lia | omega)) | (split <;> (first | lia | omega))
theorem find3_rep {I : List Nat} (hn : 41 ∉ I) : Txt.find3 (repS I) (Str.ofString ")") 5 = ((5 + I.length : Nat) : Int) := by
  have e : Str.ofString ")" = ⟨#[41]⟩ := by decide +kernel
  have l := repS_len I
  rw [e]
  have gk : (repS I).cps.getD (5 + I.length) 0 = 41 := by rw [getD_rep]; exact rep_close I
  rcases StrLaws.find3_spec (repS I) 41 5 with ⟨_, h⟩ | ⟨k, h1, h2, h3, h4, h5⟩
  · exact absurd gk (h _ (by rw [from5 (by (first | lia | omega))]; (first | lia | omega)) (by (first | lia | omega)))
  · rw [h1]
    rw [from5 (by (first | lia | omega))] at h2 h5
    congr 1
    by_cases c1 : 5 + I.length < k
    · exact absurd gk (h5 _ (by (first | lia | omega)) c1)
    by_cases c2 : k = 5 + I.length
    · exact c2
    obtain ⟨j, rfl⟩ : ∃ j, k = 5 + j := ⟨k - 5, by (first | lia | omega)⟩
    have hj : j < I.length := by (first | lia | omega)
    rw [getD_rep, List.getD_eq_getElem?_getD, rep_at I hj, List.getElem?_eq_getElem hj] at h4
    simp only [Option.getD_some] at h4
    exact absurd (h4 ▸ List.getElem_mem hj) hn
theorem item_nat (x : Str) {a c : Nat} (h : x.cps.toList[a]? = some c) : Txt.item x (a : Int) = ⟨#[c]⟩ := by
  have hlt : a < x.length := by
    have := (List.getElem?_eq_some_iff.mp h).1
    simpa [Str.length] using this
  unfold Txt.item Txt.charAt
  rw [StrLaws.at_nonneg (n := c) (Int.natCast_nonneg a) (by simpa using h)]
  rfl
theorem repF {I : List Nat} {ca cb : Nat} (h0 : I[0]? = some ca) (hl : I[I.length - 1]? = some cb) (hn : 41 ∉ I) (hlen : I.length ≤ 100) : RepF (repS I) ⟨I.toArray⟩ (5 + I.length) ca cb := by
  have l := repS_len I
  have hpos : 0 < I.length := (List.getElem?_eq_some_iff.mp h0).1
  refine ⟨?_, find_rep I, find3_rep hn, ?_, ?_, ?_, by (first | lia | omega), by (first | lia | omega), by (first | lia | omega)⟩
  · rw [show Txt.slice (repS I) none (some 3) = _ from slice_to (b := 3) (repS I) (by (first | lia | omega))]
    show ((⟨((repL I).take 3).toArray⟩ : Str) != Str.ofString "229") = false
    rw [rep_pre]
    decide +kernel
  · refine item_nat (a := 5) _ ?_
    show (repL I)[5]? = _
    rw [show 5 = 5 + 0 from rfl, rep_at I hpos, h0]
  · have e : ((5 + I.length : Nat) : Int) - 1 = ((5 + (I.length - 1) : Nat) : Int) := by (first | lia | omega)
    rw [e]
    refine item_nat _ ?_
    show (repL I)[5 + (I.length - 1)]? = _
    rw [rep_at I (by (first | lia | omega)), hl]
  · rw [show Txt.slice (repS I) (some 5) (some ((5 + I.length : Nat) : Int)) = _ from slice_nat (a := 5) (b := 5 + I.length) (repS I) (by (first | lia | omega)) (by (first | lia | omega))]
    show (⟨(((repL I).drop 5).take (5 + I.length - 5)).toArray⟩ : Str) = _
    rw [show 5 + I.length - 5 = I.length by (first | lia | omega), rep_mid]
end Mine
end
section
open PySem PySem.W PySem.Spec PySem.Calls PyProof.Rows
namespace Mine
noncomputable def splitL (c : Nat) : List Nat → List (List Nat)
  | [] => [[]]
  | a :: l => if a = c then [] :: splitL c l else match splitL c l with
    | [] => [[a]]
    | p :: r => (a :: p) :: r
noncomputable def joinL (c : Nat) : List (List Nat) → List Nat
  | [] => []
  | [p] => p
  | p :: q :: r => p ++ c :: joinL c (q :: r)
theorem splitL_cons (c a : Nat) (l : List Nat) : splitL c (a :: l) = if a = c then [] :: splitL c l else match splitL c l with
    | [] => [[a]]
    | p :: r => (a :: p) :: r := rfl
theorem splitL_free {c : Nat} : ∀ {p : List Nat}, c ∉ p → splitL c p = [p]
  | [], _ => rfl
  | a :: p, h => by
    have h1 : a ≠ c := fun e => h (e ▸ List.mem_cons_self)
    have h2 : c ∉ p := fun e => h (List.mem_cons_of_mem _ e)
    rw [splitL_cons, if_neg h1, splitL_free h2]
theorem splitL_cut {c : Nat} {t : List Nat} : ∀ {p : List Nat}, c ∉ p → splitL c (p ++ c :: t) = p :: splitL c t
  | [], _ => by simp [splitL]
  | a :: p, h => by
    have h1 : a ≠ c := fun e => h (e ▸ List.mem_cons_self)
    have h2 : c ∉ p := fun e => h (List.mem_cons_of_mem _ e)
    rw [List.cons_append]
    rw [splitL_cons, if_neg h1, splitL_cut h2]
theorem splitL_join {c : Nat} : ∀ {l : List (List Nat)}, l ≠ [] → (∀ p ∈ l, c ∉ p) → splitL c (joinL c l) = l
  | [], h, _ => absurd rfl h
  | [p], _, hf => splitL_free (hf p List.mem_cons_self)
  | p :: q :: r, _, hf => by
    show splitL c (p ++ c :: joinL c (q :: r)) = _
    rw [splitL_cut (hf p List.mem_cons_self), splitL_join (by simp) fun x hx => hf x (List.mem_cons_of_mem _ hx)]
theorem splitL_len (c : Nat) : ∀ l : List Nat, (splitL c l).length = l.count c + 1
  | [] => rfl
  | a :: l => by
    rw [splitL_cons]
    have ih := splitL_len c l
    by_cases h : a = c
    · subst h
      simp [ih]
    · rw [if_neg h, List.count_cons_of_ne h]
      cases e : splitL c l with
      | nil => rw [e] at ih; simp at ih
      | cons p r => rw [e] at ih; simpa using ih
theorem join_cps (c : Nat) : ∀ l : List Str, (Str.join ⟨#[c]⟩ l).cps.toList = joinL c (l.map fun x => x.cps.toList)
  | [] => rfl
  | [x] => rfl
  | x :: y :: r => by
    show ((x ++ ⟨#[c]⟩ ++ Str.join ⟨#[c]⟩ (y :: r)) : Str).cps.toList = x.cps.toList ++ c :: joinL c _
    have := join_cps c (y :: r)
    simp only [Str.cps_append, Array.toList_append, this]
    simp
theorem split_ne (x : Str) (c : Nat) : Txt.split x ⟨#[c]⟩ ≠ [] := by
  unfold Txt.split
  split
  · simp
  · split
    · simp
    · rw [StrLaws.partsBetween_eq]
      obtain ⟨p, r, e⟩ := StrLaws.partsFrom_ne x (⟨#[c]⟩ : Str).length 0 (Builtin.Str.occurrences x ⟨#[c]⟩ 0 x.length (x.length + 1))
      rw [e]
      simp
theorem split_is (x : Str) (c : Nat) : (Txt.split x ⟨#[c]⟩).map (fun y => y.cps.toList) = splitL c x.cps.toList := by
  have h := StrLaws.join_split x ⟨#[c]⟩
  have e : x.cps.toList = joinL c ((Txt.split x ⟨#[c]⟩).map fun y => y.cps.toList) := by
    rw [← join_cps, h]
  rw [e, splitL_join]
  · simpa using split_ne x c
  · intro p hp
    obtain ⟨y, hy, rfl⟩ := List.mem_map.mp hp
    exact StrLaws.split_free x c y hy
theorem split_len (I : List Nat) (c : Nat) : (Txt.split ⟨I.toArray⟩ ⟨#[c]⟩).length = I.count c + 1 := by
  have := congrArg List.length (split_is ⟨I.toArray⟩ c)
  rw [List.length_map, splitL_len] at this
  simpa using this
theorem split_part {I : List Nat} {c k : Nat} {p : List Nat} (h : (splitL c I)[k]? = some p) : (Txt.split ⟨I.toArray⟩ ⟨#[c]⟩)[k]? = some ⟨p.toArray⟩ := by
  have e := split_is ⟨I.toArray⟩ c
  have e2 : ((Txt.split ⟨I.toArray⟩ ⟨#[c]⟩).map (fun y => y.cps.toList))[k]? = some p := by rw [e]; simpa using h
  rw [List.getElem?_map] at e2
  cases q : (Txt.split ⟨I.toArray⟩ ⟨#[c]⟩)[k]? with
  | none => rw [q] at e2; cases e2
  | some y =>
    rw [q] at e2
    simp only [Option.map_some, Option.some.injEq] at e2
    congr 1
    apply Str.ext'
    apply Array.toList_inj.mp
    simpa using e2
end Mine
end
section
open PySem PySem.W PySem.Spec PySem.Calls PyProof.Rows
namespace Mine
open Fl
noncomputable def hitN (c d e t : Nat) : Bool := (t / 2 * d + t % 2 * e) % c == 0
noncomputable def cntN (c d e n : Nat) : Nat := (List.range n).countP (hitN c d e)
noncomputable def chkN (c d e th fo : Nat) : Bool := hitN c d e th && hitN c d e fo && cntN c d e th == 2 && cntN c d e fo == 3 && Nat.blt th fo && Nat.ble fo 60
noncomputable def leastR (c d r : Nat) : Bool := Nat.ble 1 r && (r * d) % c == 0 && (List.range r).all fun k => k == 0 || (k * d) % c != 0
noncomputable def leastQ (c d e q : Nat) : Bool := (q * d + e) % c == 0 && (List.range q).all fun k => (k * d + e) % c != 0
noncomputable def okN (c : Nat) : Bool := (List.range c).all fun d => (List.range (c + 1)).all fun r => !leastR c d r || (List.range c).all fun e =>
  ((List.range r).any (fun q => (q * d + e) % c == 0) || chkN c d e (4 * r) (6 * r)) && (List.range r).all fun q => !leastQ c d e q || chkN c d e (2 * r) (2 * r + 2 * q + 1)
theorem ok2 : okN 2 = true := by decide +kernel
theorem ok3 : okN 3 = true := by decide +kernel
theorem ok4 : okN 4 = true := by decide +kernel
theorem ok5 : okN 5 = true := by decide +kernel
theorem ok6 : okN 6 = true := by decide +kernel
theorem ok7 : okN 7 = true := by decide +kernel
theorem ok8 : okN 8 = true := by decide +kernel
theorem ok9 : okN 9 = true := by decide +kernel
theorem ok10 : okN 10 = true := by decide +kernel
theorem okAll {c : Nat} (h1 : 2 ≤ c) (h2 : c ≤ 10) : okN c = true := by
  have : c = 2 ∨ c = 3 ∨ c = 4 ∨ c = 5 ∨ c = 6 ∨ c = 7 ∨ c = 8 ∨ c = 9 ∨ c = 10 := by (first | lia | omega)
  rcases this with rfl | rfl | rfl | rfl | rfl | rfl | rfl | rfl | rfl
  · exact ok2
  · exact ok3
  · exact ok4
  · exact ok5
  · exact ok6
  · exact ok7
  · exact ok8
  · exact ok9
  · exact ok10
/-- the remainder of k D + e as a natural number -/
theorem tr {c d e : Nat} {D e1 : Int} (hc : 0 < c) (hd : (d : Int) = D.fmod c) (he : (e : Int) = e1.fmod c) (k : Nat) : ((k : Int) * D + e1).fmod c = (((k * d + e) % c : Nat) : Int) := by
  have hc' : (0 : Int) ≤ (c : Int) := by (first | lia | omega)
  rw [Int.fmod_eq_emod_of_nonneg _ hc'] at hd he ⊢
  rw [Int.natCast_emod, Int.natCast_add, Int.natCast_mul, hd, he]
  have h1 := Int.emod_add_mul_ediv D c
  have h2 := Int.emod_add_mul_ediv e1 c
  have h3 : (k : Int) * D + e1 = ((k : Int) * (D % c) + e1 % c) + c * ((k : Int) * (D / c) + e1 / c) := by
    generalize D % (c : Int) = x at *
    generalize D / (c : Int) = y at *
    generalize e1 % (c : Int) = z at *
    generalize e1 / (c : Int) = v at *
    subst h1
    subst h2
    grind
  rw [h3, Int.add_mul_emod_self_left]
theorem tr2 {c d e : Nat} {D e1 : Int} (hc : 0 < c) (hd : (d : Int) = D.fmod c) (he : (e : Int) = e1.fmod c) (k j : Nat) : ((k : Int) * D + (j : Int) * e1).fmod c = (((k * d + j * e) % c : Nat) : Int) := by
  have hc' : (0 : Int) ≤ (c : Int) := by (first | lia | omega)
  rw [Int.fmod_eq_emod_of_nonneg _ hc'] at hd he ⊢
  rw [Int.natCast_emod, Int.natCast_add, Int.natCast_mul, Int.natCast_mul, hd, he]
  have h1 := Int.emod_add_mul_ediv D c
  have h2 := Int.emod_add_mul_ediv e1 c
  have h3 : (k : Int) * D + (j : Int) * e1 = ((k : Int) * (D % c) + (j : Int) * (e1 % c)) + c * ((k : Int) * (D / c) + (j : Int) * (e1 / c)) := by
    generalize D % (c : Int) = x at *
    generalize D / (c : Int) = y at *
    generalize e1 % (c : Int) = z at *
    generalize e1 / (c : Int) = v at *
    subst h1
    subst h2
    grind
  rw [h3, Int.add_mul_emod_self_left]
theorem hit_dig {c d e : Nat} {f e1 e2 : Int} (P : Par (c : Int) f e1 e2) (hc : 0 < c) (hd : (d : Int) = (e1 + e2).fmod c) (he : (e : Int) = e1.fmod c) (t : Nat) : hitN c d e t = decide (dig c f e1 e2 t = f) := by
  have hf1 := P.hf1
  have hf2 := P.hf2
  have hc' : (0 : Int) ≤ (c : Int) := by (first | lia | omega)
  have key : ((t / 2 : Nat) : Int) * (e1 + e2) + ((t % 2 : Nat) : Int) * e1 = placeZ f e1 e2 t - f := by unfold placeZ; (first | lia | omega)
  have h1 := tr2 hc hd he (t / 2) (t % 2)
  rw [key, Int.fmod_eq_emod_of_nonneg _ hc'] at h1
  have h2 : dig c f e1 e2 t = f ↔ (placeZ f e1 e2 t - f) % (c : Int) = 0 := by
    unfold dig
    rw [Int.fmod_eq_emod_of_nonneg _ hc', ← Int.emod_eq_emod_iff_emod_sub_eq_zero, Int.emod_eq_of_lt hf1 hf2]
  unfold hitN
  rw [h1] at h2
  by_cases q : (t / 2 * d + t % 2 * e) % c = 0
  · rw [decide_eq_true (h2.mpr (by rw [q]; rfl)), q]; rfl
  · rw [decide_eq_false (fun x => q (by have := h2.mp x; exact_mod_cast this))]
    simpa using q
structure Hits (c f e1 e2 : Int) (th fo : Nat) : Prop where
  lt : th < fo
  le : fo ≤ 60
  hth : dig c f e1 e2 th = f
  hfo : dig c f e1 e2 fo = f
  cth : (List.range th).countP (fun t => decide (dig c f e1 e2 t = f)) = 2
  cfo : (List.range fo).countP (fun t => decide (dig c f e1 e2 t = f)) = 3
theorem hits_of {c d e : Nat} {f e1 e2 : Int} (P : Par (c : Int) f e1 e2) (hc : 0 < c) (hd : (d : Int) = (e1 + e2).fmod c) (he : (e : Int) = e1.fmod c) {th fo : Nat} (h : chkN c d e th fo = true) : Hits c f e1 e2 th fo := by
  unfold chkN cntN at h
  have ef : hitN c d e = fun t => decide (dig c f e1 e2 t = f) := funext fun t => hit_dig P hc hd he t
  rw [ef] at h
  simp only [Bool.and_eq_true, beq_iff_eq, decide_eq_true_eq, Nat.blt_eq, Nat.ble_eq] at h
  obtain ⟨⟨⟨⟨⟨a1, a2⟩, a3⟩, a4⟩, a5⟩, a6⟩ := h
  exact ⟨a5, a6, a1, a2, a3, a4⟩
theorem hits_ex {c f e1 e2 r : Int} {ms : List Int} {th fo : Int} (P : Par c f e1 e2) (R : Rd c (e1 + e2) r) (M : Mt c (e1 + e2) e1 r ms) (T : TF r ms th fo) : ∃ a b : Nat, th = a ∧ fo = b ∧ Hits c f e1 e2 a b := by
  have hc1 := P.hc1
  have hc2 := P.hc2
  have hr1 := R.h1
  have hr2 := R.h2
  obtain ⟨cn, rfl⟩ := Int.eq_ofNat_of_zero_le (show 0 ≤ c by (first | lia | omega))
  obtain ⟨rn, rfl⟩ := Int.eq_ofNat_of_zero_le (show 0 ≤ r by (first | lia | omega))
  have hc : 0 < cn := by (first | lia | omega)
  obtain ⟨d, hd⟩ := Int.eq_ofNat_of_zero_le (Int.fmod_nonneg_of_pos (e1 + e2) (show (0 : Int) < cn by (first | lia | omega)))
  obtain ⟨e, he⟩ := Int.eq_ofNat_of_zero_le (Int.fmod_nonneg_of_pos e1 (show (0 : Int) < cn by (first | lia | omega)))
  have hdl := Int.fmod_lt_of_pos (e1 + e2) (show (0 : Int) < cn by (first | lia | omega))
  have hel := Int.fmod_lt_of_pos e1 (show (0 : Int) < cn by (first | lia | omega))
  have z0 : ((0 : Nat) : Int) = (0 : Int).fmod cn := by simp
  have ok := okAll (c := cn) (by (first | lia | omega)) (by (first | lia | omega))
  have lr : leastR cn d rn = true := by
    unfold leastR
    simp only [Bool.and_eq_true, beq_iff_eq, Nat.ble_eq, List.all_eq_true, List.mem_range, Bool.or_eq_true, bne_iff_ne, ne_eq]
    refine ⟨⟨by (first | lia | omega), ?_⟩, fun k hk => ?_⟩
    · have := tr2 (j := 0) hc hd.symm z0 rn
      rw [show (rn : Int) * (e1 + e2) + ((0 : Nat) : Int) * 0 = rn * (e1 + e2) by simp, R.h3] at this
      have h9 : (rn * d + 0 * 0) % cn = 0 := by exact_mod_cast this.symm
      simpa using h9
    · by_cases k0 : k = 0
      · exact .inl k0
      · right
        intro q
        refine R.h4 k (by (first | lia | omega)) (by (first | lia | omega)) ?_
        have := tr2 (j := 0) hc hd.symm z0 k
        rw [show (k : Int) * (e1 + e2) + ((0 : Nat) : Int) * 0 = k * (e1 + e2) by simp] at this
        rw [this]
        simp [q]
  unfold okN at ok
  rw [List.all_eq_true] at ok
  have ok1 := ok d (List.mem_range.mpr (by (first | lia | omega)))
  rw [List.all_eq_true] at ok1
  have ok2 := ok1 rn (List.mem_range.mpr (by (first | lia | omega)))
  rw [lr] at ok2
  simp only [Bool.not_true, Bool.false_or] at ok2
  rw [List.all_eq_true] at ok2
  have ok3 := ok2 e (List.mem_range.mpr (by (first | lia | omega)))
  rw [Bool.and_eq_true] at ok3
  cases T with
  | none =>
    cases M with
    | none hM =>
      refine ⟨4 * rn, 6 * rn, by push_cast; rfl, by push_cast; rfl, hits_of P hc hd.symm he.symm ?_⟩
      rcases Bool.or_eq_true_iff.mp ok3.1 with q | q
      · rw [List.any_eq_true] at q
        obtain ⟨k, hk, hq⟩ := q
        refine absurd ?_ (hM k (by (first | lia | omega)) (by have := List.mem_range.mp hk; (first | lia | omega)))
        rw [tr hc hd.symm he.symm, beq_iff_eq.mp hq]
        rfl
      · exact q
  | some q zs =>
    cases M with
    | some _ _ h1 h2 h3 h4 =>
      obtain ⟨qn, rfl⟩ := Int.eq_ofNat_of_zero_le h1
      refine ⟨2 * rn, 2 * rn + 2 * qn + 1, by push_cast; rfl, by push_cast; rfl, hits_of P hc hd.symm he.symm ?_⟩
      have ok4 := ok3.2
      rw [List.all_eq_true] at ok4
      have ok5 := ok4 qn (List.mem_range.mpr (by (first | lia | omega)))
      have lq : leastQ cn d e qn = true := by
        unfold leastQ
        simp only [Bool.and_eq_true, beq_iff_eq, List.all_eq_true, List.mem_range, bne_iff_ne, ne_eq]
        refine ⟨?_, fun k hk q => ?_⟩
        · rw [tr hc hd.symm he.symm] at h3
          exact_mod_cast h3
        · refine h4 k (by (first | lia | omega)) (by (first | lia | omega)) ?_
          rw [tr hc hd.symm he.symm, q]
          rfl
      rw [lq] at ok5
      simpa using ok5
end Mine
end
section
open PySem PySem.W PySem.Spec PySem.Calls PyProof.Rows
namespace Mine
open Fl
noncomputable def dsL (c f e1 e2 : Int) (i : Nat) : List Nat := (List.range i).map fun t => 48 + (dig c f e1 e2 t).toNat
noncomputable def cutI (c f e1 e2 : Int) (i : Nat) : List Nat := (dsL c f e1 e2 i).take 1 ++ [119] ++ (dsL c f e1 e2 i).drop 1
section
variable {c f e1 e2 : Int}
theorem dsL_len (i : Nat) : (dsL c f e1 e2 i).length = i := by simp [dsL]
theorem dsL_succ (i : Nat) : dsL c f e1 e2 (i + 1) = dsL c f e1 e2 i ++ [48 + (dig c f e1 e2 i).toNat] := by simp [dsL, List.range_succ]
theorem text_ds (P : Par c f e1 e2) : ∀ i : Nat, (textOf c f e1 e2 i).cps.toList = dsL c f e1 e2 i
  | 0 => by
    show (Str.ofString "").cps.toList = []
    decide +kernel
  | i + 1 => by
    show ((textOf c f e1 e2 i ++ Str.ofString (toString (dig c f e1 e2 i))) : Str).cps.toList = _
    obtain ⟨a, b⟩ := dig_bd P i
    rw [Str.cps_append, Array.toList_append, text_ds P i, dsL_succ, digStr a b]
theorem text_mk (P : Par c f e1 e2) (i : Nat) : textOf c f e1 e2 i = ⟨(dsL c f e1 e2 i).toArray⟩ := by
  apply Str.ext'
  apply Array.toList_inj.mp
  rw [text_ds P]
theorem dsL_take {i n : Nat} (h : i ≤ n) : (dsL c f e1 e2 n).take i = dsL c f e1 e2 i := by
  unfold dsL
  rw [← List.map_take, List.take_range, Nat.min_eq_left h]
theorem cut_text (P : Par c f e1 e2) {i n : Nat} (h : i ≤ n) : Txt.slice (textOf c f e1 e2 n) none (some (i : Int)) = textOf c f e1 e2 i := by
  have hl : (textOf c f e1 e2 n).length = n := by
    rw [text_mk P]
    show (dsL c f e1 e2 n).toArray.size = n
    rw [List.size_toArray, dsL_len]
  rw [slice_to _ (by (first | lia | omega)), text_ds P, dsL_take h, text_mk P i]
theorem reply_is (P : Par c f e1 e2) (i : Nat) : Str.ofString "229 (" ++ Txt.slice (textOf c f e1 e2 i) none (some 1) ++ Str.ofString "w" ++ Txt.slice (textOf c f e1 e2 i) (some 1) none ++ Str.ofString ") walked" = repS (cutI c f e1 e2 i) := by
  have hl : (textOf c f e1 e2 i).length = i := by
    rw [text_mk P]
    show (dsL c f e1 e2 i).toArray.size = i
    rw [List.size_toArray, dsL_len]
  have e0 : (Str.ofString "229 (").cps.toList = [50, 50, 57, 32, 40] := by decide +kernel
  have e3 : (Str.ofString "w").cps.toList = [119] := by decide +kernel
  have e4 : (Str.ofString ") walked").cps.toList = [41, 32, 119, 97, 108, 107, 101, 100] := by decide +kernel
  have s1 : (Txt.slice (textOf c f e1 e2 i) none (some 1)).cps.toList = (dsL c f e1 e2 i).take 1 := by
    by_cases h : 1 ≤ i
    · rw [show Txt.slice (textOf c f e1 e2 i) none (some 1) = _ from cut_text P h, text_ds P, dsL_take h]
    · have : i = 0 := by (first | lia | omega)
      subst this
      have : textOf c f e1 e2 0 = Str.ofString "" := rfl
      rw [this]
      show (Txt.slice (Str.ofString "") none (some 1)).cps.toList = []
      decide +kernel
  have s2 : (Txt.slice (textOf c f e1 e2 i) (some 1) none).cps.toList = (dsL c f e1 e2 i).drop 1 := by
    by_cases h : 1 ≤ i
    · rw [show Txt.slice (textOf c f e1 e2 i) (some 1) none = _ from slice_from (a := 1) (textOf c f e1 e2 i) (by (first | lia | omega)), text_ds P]
    · have : i = 0 := by (first | lia | omega)
      subst this
      have : textOf c f e1 e2 0 = Str.ofString "" := rfl
      rw [this]
      show (Txt.slice (Str.ofString "") (some 1) none).cps.toList = []
      decide +kernel
  apply Str.ext'
  apply Array.toList_inj.mp
  simp only [Str.cps_append, Array.toList_append, e0, e3, e4, s1, s2]
  show _ = repL _
  unfold repL cutI
  simp only [List.append_assoc]
end
end Mine
end
section
open PySem PySem.W PySem.Spec PySem.Calls PyProof.Rows
namespace Mine
open Fl
noncomputable def dg (c f e1 e2 : Int) (t : Nat) : Nat := 48 + (dig c f e1 e2 t).toNat
theorem splitL_app (c : Nat) (B : List Nat) : ∀ A : List Nat, splitL c (A ++ c :: B) = splitL c A ++ splitL c B
  | [] => by simp [splitL]
  | a :: A => by
    rw [List.cons_append, splitL_cons, splitL_cons, splitL_app c B A]
    by_cases h : a = c
    · rw [if_pos h, if_pos h]; rfl
    · rw [if_neg h, if_neg h]
      cases e : splitL c A with
      | nil =>
        have := splitL_len c A
        rw [e] at this
        simp at this
      | cons p r => rfl
section
variable {c f e1 e2 : Int}
theorem dig0 (P : Par c f e1 e2) : dig c f e1 e2 0 = f := by
  have h1 := P.hf1
  have h2 := P.hf2
  have e : placeZ f e1 e2 0 = f := by unfold placeZ; simp
  unfold dig
  rw [e, Int.fmod_eq_emod_of_nonneg _ (by (first | lia | omega)), Int.emod_eq_of_lt h1 h2]
theorem dg0 (P : Par c f e1 e2) : dg c f e1 e2 0 = 48 + f.toNat := by unfold dg; rw [dig0 P]
theorem dg_bd (P : Par c f e1 e2) (t : Nat) : 48 ≤ dg c f e1 e2 t ∧ dg c f e1 e2 t ≤ 57 := by
  obtain ⟨a, b⟩ := dig_bd P t
  unfold dg
  (first | lia | omega)
theorem dg_iff (P : Par c f e1 e2) (t : Nat) : dg c f e1 e2 t = 48 + f.toNat ↔ dig c f e1 e2 t = f := by
  obtain ⟨a, b⟩ := dig_bd P t
  have := P.hf1
  unfold dg
  (first | lia | omega)
theorem cutI_one : cutI c f e1 e2 1 = [dg c f e1 e2 0, 119] := rfl
theorem cutI_snoc {i : Nat} (h : 1 ≤ i) : cutI c f e1 e2 (i + 1) = cutI c f e1 e2 i ++ [dg c f e1 e2 i] := by
  unfold cutI
  rw [dsL_succ]
  have hl := dsL_len (c := c) (f := f) (e1 := e1) (e2 := e2) i
  rw [List.take_append_of_le_length (by (first | lia | omega)), List.drop_append_of_le_length (by (first | lia | omega))]
  simp only [List.append_assoc, dg]
theorem cutI_len (i : Nat) : (cutI c f e1 e2 i).length = i + 1 := by
  unfold cutI
  simp only [List.length_append, List.length_take, List.length_drop, List.length_cons, List.length_nil, dsL_len]
  (first | lia | omega)
theorem cutI_head {i : Nat} (h : 1 ≤ i) : (cutI c f e1 e2 i)[0]? = some (dg c f e1 e2 0) := by
  induction i with
  | zero => (first | lia | omega)
  | succ i ih =>
    by_cases h1 : 1 ≤ i
    · rw [cutI_snoc h1, List.getElem?_append_left (by rw [cutI_len]; (first | lia | omega)), ih h1]
    · have : i = 0 := by (first | lia | omega)
      subst this
      rfl
theorem cutI_last {i : Nat} (h : 1 ≤ i) : (cutI c f e1 e2 (i + 1))[(cutI c f e1 e2 (i + 1)).length - 1]? = some (dg c f e1 e2 i) := by
  rw [cutI_len, cutI_snoc h, List.getElem?_append_right (by rw [cutI_len]; (first | lia | omega)), cutI_len]
  have : i + 1 + 1 - 1 - (i + 1) = 0 := by (first | lia | omega)
  rw [this]
  rfl
theorem cutI_no (P : Par c f e1 e2) : ∀ i : Nat, 41 ∉ cutI c f e1 e2 i
  | 0 => by simp [cutI, dsL]
  | 1 => by
    have := dg_bd P 0
    rw [cutI_one]
    simp
    (first | lia | omega)
  | i + 2 => by
    have := dg_bd P (i + 1)
    rw [cutI_snoc (by (first | lia | omega))]
    have ih := cutI_no P (i + 1)
    simp only [List.mem_append, List.mem_cons, List.not_mem_nil, or_false, not_or]
    exact ⟨ih, by (first | lia | omega)⟩
noncomputable abbrev hitP (c f e1 e2 : Int) : Nat → Bool := fun t => decide (dig c f e1 e2 t = f)
theorem cutI_count (P : Par c f e1 e2) {i : Nat} (h : 1 ≤ i) : (cutI c f e1 e2 i).count (48 + f.toNat) = (List.range i).countP (hitP c f e1 e2) := by
  have h1 := P.hf1
  have h2 := P.hf2
  have h3 := P.hc2
  induction i with
  | zero => (first | lia | omega)
  | succ i ih =>
    by_cases q : 1 ≤ i
    · rw [cutI_snoc q, List.count_append, ih q, List.range_succ, List.countP_append]
      congr 1
      by_cases d : dig c f e1 e2 i = f
      · rw [(dg_iff P i).mpr d]; simp [hitP, d]
      · have := mt (dg_iff P i).mp d
        simp [hitP, d, List.count_cons, this]
    · have : i = 0 := by (first | lia | omega)
      subst this
      rw [cutI_one, dg0 P]
      have h9 : ¬ 119 = 48 + f.toNat := by (first | lia | omega)
      have h8 : ¬ 48 + f.toNat = 119 := by (first | lia | omega)
      simp [hitP, dig0 P, List.range_succ, List.count_cons, h9]
theorem cutI_run (th : Nat) (h : 1 ≤ th) : ∀ k : Nat, cutI c f e1 e2 (th + 1 + k) = cutI c f e1 e2 th ++ dg c f e1 e2 th :: (List.range k).map (fun t => dg c f e1 e2 (th + 1 + t))
  | 0 => by rw [Nat.add_zero, cutI_snoc h]; rfl
  | k + 1 => by
    rw [show th + 1 + (k + 1) = (th + 1 + k) + 1 by (first | lia | omega), cutI_snoc (by (first | lia | omega)), cutI_run th h k, List.range_succ, List.map_append]
    simp only [List.append_assoc, List.cons_append, List.map_cons, List.map_nil]
/-- the digits between the third hit and the fourth -/
noncomputable def partL (c f e1 e2 : Int) (th fo : Nat) : List Nat := (List.range (fo - (th + 1))).map fun t => dg c f e1 e2 (th + 1 + t)
theorem hits_th {th fo : Nat} (H : Hits c f e1 e2 th fo) : 1 ≤ th := by
  have := H.cth
  cases th with
  | zero => simp at this
  | succ n => (first | lia | omega)
theorem part_free (P : Par c f e1 e2) {th fo : Nat} (H : Hits c f e1 e2 th fo) : 48 + f.toNat ∉ partL c f e1 e2 th fo := by
  have h1 := H.cth
  have h2 := H.cfo
  have h3 := H.hth
  have h4 := H.lt
  obtain ⟨k, rfl⟩ : ∃ k, fo = th + 1 + k := ⟨fo - (th + 1), by (first | lia | omega)⟩
  rw [List.range_add, List.countP_append, List.range_succ, List.countP_append, h1] at h2
  have h5 : List.countP (hitP c f e1 e2) [th] = 1 := by simp [hitP, h3]
  rw [h5] at h2
  have h6 : List.countP (hitP c f e1 e2) (List.map (fun x => th + 1 + x) (List.range k)) = 0 := by
    have : 2 + 1 + List.countP (hitP c f e1 e2) (List.map (fun x => th + 1 + x) (List.range k)) = 3 := h2
    (first | lia | omega)
  rw [List.countP_eq_zero] at h6
  unfold partL
  rw [show th + 1 + k - (th + 1) = k by (first | lia | omega)]
  intro q
  obtain ⟨t, ht, e⟩ := List.mem_map.mp q
  refine h6 (th + 1 + t) (List.mem_map.mpr ⟨t, ht, rfl⟩) ?_
  simpa [hitP] using (dg_iff P _).mp e
theorem split_good (P : Par c f e1 e2) {th fo : Nat} (H : Hits c f e1 e2 th fo) : (Txt.split ⟨(cutI c f e1 e2 (fo + 1)).toArray⟩ ⟨#[48 + f.toNat]⟩).length = 5 ∧ (Txt.split ⟨(cutI c f e1 e2 (fo + 1)).toArray⟩ ⟨#[48 + f.toNat]⟩)[3]? = some ⟨(partL c f e1 e2 th fo).toArray⟩ := by
  have ht := hits_th H
  have hl := H.lt
  constructor
  · rw [split_len, cutI_count P (by (first | lia | omega)), List.range_succ, List.countP_append]
    have := H.cfo
    have h5 : List.countP (hitP c f e1 e2) [fo] = 1 := by simp [hitP, H.hfo]
    rw [h5]
    show List.countP (fun t => decide (dig c f e1 e2 t = f)) (List.range fo) + 1 + 1 = 5
    rw [this]
  · apply split_part
    obtain ⟨k, rfl⟩ : ∃ k, fo = th + 1 + k := ⟨fo - (th + 1), by (first | lia | omega)⟩
    have ek : th + 1 + k - (th + 1) = k := by (first | lia | omega)
    have hp := part_free P H
    unfold partL at *
    rw [ek] at *
    rw [cutI_snoc (by (first | lia | omega)), cutI_run th ht k, (dg_iff P th).mpr H.hth, (dg_iff P _).mpr H.hfo, List.append_assoc, List.cons_append, splitL_app, splitL_app, splitL_free hp]
    have hn : (splitL (48 + f.toNat) (cutI c f e1 e2 th)).length = 3 := by
      rw [splitL_len, cutI_count P ht]
      have := H.cth
      show List.countP (fun t => decide (dig c f e1 e2 t = f)) (List.range th) + 1 = 3
      rw [this]
    rw [List.getElem?_append_right (by (first | lia | omega)), hn]
    rfl
theorem fold_digs : ∀ (l : List Int) (a : Nat), (∀ z ∈ l, 0 ≤ z) → ((((l.map fun z => 48 + z.toNat).foldl (fun acc c => acc * 10 + (c - 48)) a : Nat)) : Int) = l.foldl (fun a b => 10 * a + b) (a : Int)
  | [], _, _ => rfl
  | z :: l, a, h => by
    rw [List.map_cons, List.foldl_cons, List.foldl_cons, fold_digs l _ fun y hy => h y (List.mem_cons_of_mem _ hy)]
    have := h z List.mem_cons_self
    congr 1
    (first | lia | omega)
theorem part_ns (P : Par c f e1 e2) {n th fo : Nat} (h : th < fo) (h2 : fo ≤ n) : (((rangeKs 0 ((n : Int) - 0).toNat).map (fun k' => dig c f e1 e2 k'.toNat)).drop (th + 1)).take (fo - (th + 1)) = (List.range (fo - (th + 1))).map fun t => dig c f e1 e2 (th + 1 + t) := by
  have e0 : ((n : Int) - 0).toNat = n := by (first | lia | omega)
  rw [e0]
  unfold rangeKs
  apply List.ext_getElem?
  intro j
  rw [List.getElem?_take, List.getElem?_drop, List.getElem?_map, List.getElem?_map, List.getElem?_map]
  by_cases q : j < fo - (th + 1)
  · rw [if_pos q, List.getElem?_range (by (first | lia | omega)), List.getElem?_range q]
    simp
    congr 1
  · rw [if_neg q, List.getElem?_eq_none (by simpa using q)]
    rfl
theorem int_good (P : Par c f e1 e2) {n th fo : Nat} (H : Hits c f e1 e2 th fo) (h2 : fo ≤ n) (hne : fo ≠ th + 1) : IntOk ⟨(cutI c f e1 e2 (fo + 1)).toArray⟩ (48 + f.toNat) (((((rangeKs 0 ((n : Int) - 0).toNat).map (fun k' => dig c f e1 e2 k'.toNat)).drop (th + 1)).take (fo - (th + 1))).foldl (fun a b => 10 * a + b) 0) := by
  intro y hy
  rw [(split_good P H).2] at hy
  have := Option.some.inj hy
  subst this
  have hl := H.lt
  have hle := H.le
  rw [part_ns P hl h2]
  have hp : (⟨(partL c f e1 e2 th fo).toArray⟩ : Str).cps.toList = partL c f e1 e2 th fo := rfl
  have hlen : (⟨(partL c f e1 e2 th fo).toArray⟩ : Str).length = fo - (th + 1) := by
    show (partL c f e1 e2 th fo).toArray.size = _
    rw [List.size_toArray]
    simp [partL]
  constructor
  · rw [intText_digits]
    · congr 1
      rw [hp]
      unfold NumText.digitsVal partL
      rw [show (List.range (fo - (th + 1))).map (fun t => dg c f e1 e2 (th + 1 + t)) = ((List.range (fo - (th + 1))).map fun t => dig c f e1 e2 (th + 1 + t)).map fun z => 48 + z.toNat by rw [List.map_map]; rfl]
      refine fold_digs _ 0 fun z hz => ?_
      obtain ⟨t, _, rfl⟩ := List.mem_map.mp hz
      exact (dig_bd P _).1
    · rw [hp]
      intro z hz
      obtain ⟨t, _, rfl⟩ := List.mem_map.mp hz
      exact dg_bd P _
    · rw [hp]
      intro e
      have := congrArg List.length e
      simp [partL] at this
      (first | lia | omega)
    · (first | lia | omega)
  · (first | lia | omega)
theorem val_good (P : Par c f e1 e2) {th fo : Nat} (H : Hits c f e1 e2 th fo) (he : fo = th + 1) : (Txt.split ⟨(cutI c f e1 e2 (fo + 1)).toArray⟩ ⟨#[48 + f.toNat]⟩)[3]? = some (Str.ofString "") := by
  rw [(split_good P H).2]
  subst he
  unfold partL
  rw [Nat.sub_self]
  congr 1
theorem rep_good (P : Par c f e1 e2) {th fo : Nat} (H : Hits c f e1 e2 th fo) : RepF (repS (cutI c f e1 e2 (fo + 1))) ⟨(cutI c f e1 e2 (fo + 1)).toArray⟩ (5 + (cutI c f e1 e2 (fo + 1)).length) (48 + f.toNat) (48 + f.toNat) := by
  have hl := H.le
  have hl2 := H.lt
  refine repF ?_ ?_ (cutI_no P _) (by rw [cutI_len]; (first | lia | omega))
  · rw [cutI_head (by (first | lia | omega)), dg0 P]
  · rw [cutI_last (by (first | lia | omega)), (dg_iff P fo).mpr H.hfo]
theorem sg (x y : Nat) : ((⟨#[x]⟩ : Str) != ⟨#[y]⟩) = decide (x ≠ y) := by
  by_cases h : x = y
  · subst h; simp
  · have : (⟨#[x]⟩ : Str) ≠ ⟨#[y]⟩ := by
      intro e
      have := congrArg (fun s : Str => s.cps.toList) e
      simp at this
      exact h this
    simp [h, this]
/-- a beginning that is refused -/
theorem rep_bad (P : Par c f e1 e2) {n th fo i : Nat} (H : Hits c f e1 e2 th fo) (hi : i ≤ 70) (hne : i ≠ fo + 1) :
    ∃ ca cb, RepF (repS (cutI c f e1 e2 i)) ⟨(cutI c f e1 e2 i).toArray⟩ (5 + (cutI c f e1 e2 i).length) ca cb ∧
      ((((⟨#[ca]⟩ : Str) != ⟨#[cb]⟩) = true) ∨ ((((⟨#[ca]⟩ : Str) != ⟨#[cb]⟩) = false) ∧ (Txt.split ⟨(cutI c f e1 e2 i).toArray⟩ ⟨#[ca]⟩).length ≠ 5)) := by
  have hf1 := P.hf1
  have hf2 := P.hf2
  have hc2 := P.hc2
  match i, hi, hne with
  | 0, _, _ =>
    refine ⟨119, 119, repF rfl rfl (cutI_no P _) (by rw [cutI_len]; (first | lia | omega)), .inr ⟨by rw [sg]; rfl, ?_⟩⟩
    rw [split_len]
    show (([119] : List Nat).count 119) + 1 ≠ 5
    decide
  | 1, _, _ =>
    refine ⟨dg c f e1 e2 0, 119, repF rfl rfl (cutI_no P _) (by rw [cutI_len]; (first | lia | omega)), .inl ?_⟩
    have := dg_bd P 0
    rw [sg]
    simp
    (first | lia | omega)
  | j + 2, hi, hne =>
    refine ⟨dg c f e1 e2 0, dg c f e1 e2 (j + 1), repF (cutI_head (by (first | lia | omega))) (cutI_last (by (first | lia | omega))) (cutI_no P _) (by rw [cutI_len]; (first | lia | omega)), ?_⟩
    rw [dg0 P, sg]
    by_cases d : dig c f e1 e2 (j + 1) = f
    · right
      refine ⟨by rw [(dg_iff P _).mpr d]; simp, ?_⟩
      rw [split_len, cutI_count P (by (first | lia | omega)), List.range_succ, List.countP_append]
      have h5 : List.countP (hitP c f e1 e2) [j + 1] = 1 := by simp [hitP, d]
      rw [h5]
      intro q
      have q3 : List.countP (hitP c f e1 e2) (List.range (j + 1)) = 3 := by (first | lia | omega)
      have cfo : List.countP (hitP c f e1 e2) (List.range fo) = 3 := H.cfo
      have h6 : List.countP (hitP c f e1 e2) [fo] = 1 := by simp [hitP, H.hfo]
      have mono : ∀ a b : Nat, a ≤ b → List.countP (hitP c f e1 e2) (List.range a) ≤ List.countP (hitP c f e1 e2) (List.range b) := by
        intro a b hab
        obtain ⟨d, rfl⟩ := Nat.exists_eq_add_of_le hab
        rw [List.range_add, List.countP_append]
        (first | lia | omega)
      rcases Nat.lt_or_gt_of_ne (show j + 1 ≠ fo by (first | lia | omega)) with l | l
      · have := mono (j + 1 + 1) fo (by (first | lia | omega))
        rw [List.range_succ, List.countP_append, h5] at this
        (first | lia | omega)
      · have := mono (fo + 1) (j + 1) (by (first | lia | omega))
        rw [List.range_succ, List.countP_append, h6] at this
        (first | lia | omega)
    · left
      have := mt (dg_iff P (j + 1)).mp d
      simp
      exact fun e => this e.symm
end
end Mine
end
section
open PySem PySem.W PySem.Spec PySem.Calls PyProof.Rows
namespace Mine
section
variable {prog : Program} {w : World} {A₀ A : Around} {s : Shared} {base h₀ g₀ : Heap} {outer : List Env} {L : Addr} {env : Env} {m : Str → Option Value} {news : List (Addr × Obj)} {K : Frag} {p : Program} {loose : List Str} {mean : ExcName → Option Value} {mg mb : Str → Option Value}
    {R : Result → Shared → Prop} {name qual : Str} {params : Arguments} {body : List Stmt} {scope : Scope} {dV kV doc pm cdv ct oc : Value} {an od : Option Addr} {osl : Array (Option Value)} {f : Addr} {args : Args} {binds : List (Str × Value)}

theorem code_defXC (B : Below A₀ base [] h₀) (F : Fr h₀ L s.heap m) (X₀ : K.In h₀) (N : News h₀ L s.heap news) (T : Top p loose mean mg mb h₀) (hA : A.frames = some [env]) (hf : env.frame = some L) (hck : env.scope.kind = .function)
    (ho : K.lookup f = some ⟨oc, od, .func (fnOf name qual params body scope dV kV doc pm an cdv ct), osl⟩) (hcd : codeIn K cdv qual = true) (hroom : A.depth < recursionLimit)
    (hbind : BindsTo s (fnOf name qual params body scope dV kV doc pm an cdv ct) args binds) (hloc : ∀ y ∈ binds, scope.names.lookup y.1 = some .local)
    (h : ∀ g L' h₁, Fr h₀ L g m → Fr g L' h₁ (fun y => binds.reverse.lookup y) → News g L' h₁ news → Below A base [env] g → K.In g → Top p loose mean mg mb g → KtsDicts ([env].filterMap (·.frame)) g →
      wpC (model prog w) (A.deeper (envOf qual scope L' f cdv)) (execs body (envOf qual scope L' f cdv))
        (fun fl s' => LeaveS0 ([env].filterMap (·.frame)) h₀ L m g R (match fl with | .ret v => v | _ => .none) s')
        (fun e s' => wpAny (model prog w) (A.deeper (envOf qual scope L' f cdv)) (leaving (envOf qual scope L' f cdv) e) (fun _ s'' => R (.error e) s'') (fun e' s'' => R (.error e') s'') s')
        { s with heap := h₁, toks := s.toks + binds.length })
    (hco : scope.isCoroutine = false) (hgen : scope.isGenerator = false) (hk : scope.kind = .function)
    (hcell : ∀ x ∈ scope.names, x.2 ≠ .cell) : codeC (model prog w) A (.call (.ref f) args) R s := by
  have X := X₀.keeps F.keep
  refine codeC_call_def (fd := fnOf name qual params body scope dV kV doc pm an cdv ct) (body := body) (binds := binds) hroom (X _ _ ho) rfl (T.nolimit.keeps F.keep) (codeRec_of X hcd) rfl hbind hcell hloc (fun h₁ hns hk₁ => ?_) hco hgen hk
  obtain ⟨oL, es, ep, hLg, hLd, hN, hNs, st, B₂⟩ := enterX B F N hA hf hck
  refine wpC_mono (h _ s.heap.objs.size h₁ ⟨hN _ hLg, st, F.above⟩ ⟨hns, fun b o e => hk₁ b o (of_hideAll _ e), Nat.le_of_eq (hideAll_size _ _)⟩
    (fun p hp => ⟨hk₁ _ _ (N p hp).1, Nat.ne_of_lt (Heap.lt_size (N p hp).1), hideAll_none _ (List.mem_map_of_mem hp)⟩) B₂ (X₀.keeps st) (T.keeps st) (fun b hb => by
      rcases memX hf hb with rfl | z
      · exact ⟨oL, es, ep, hLg, hLd⟩
      · simp at z)) (fun fl s' hl => ?_) fun _ _ y => wpC_of y
  obtain ⟨g', L', m', news', T', F', N', k⟩ := hl
  have nL₀ : h₀.get? L = none := kts_self F
  obtain ⟨sl, hs⟩ := T'.up hLg
  refine k ⟨hNs sl _ (F'.keep _ _ hs), fun b o e => F'.keep b o (T'.other b o (st b o e) (fun q => by
    rcases memX hf q with z | z
    · rw [z, nL₀] at e
      cases e
    · simp at z)), F.above⟩ fun p hp => ⟨(N' p hp).1, fun q => ?_, ?_⟩
  · have := (N' p hp).2.2; rw [q, hs] at this; cases this
  · cases q : h₀.get? p.1 with
    | none => rfl
    | some o =>
      obtain ⟨sl', hs'⟩ := T'.up (st _ _ q)
      have := (N' p hp).2.2
      rw [hs'] at this
      cases this
end
end Mine
end
section
open PySem PySem.W PySem.Spec PySem.Calls PyProof.Rows
namespace Mine
section
variable {prog : Program} {w : World} {A₀ A : Around} {s : Shared} {base h₀ g₀ : Heap} {outer : List Env} {L a : Addr} {m : Str → Option Value} {cn : Str} {cs : Scope} {ccd : Value} {news : List (Addr × Obj)} {K : Frag} {p : Program} {loose : List Str} {mean : ExcName → Option Value} {mg mb : Str → Option Value}
    {R : Result → Shared → Prop} {name qual : Str} {params : Arguments} {body : List Stmt} {scope : Scope} {dV kV doc pm cdv ct oc : Value} {an od : Option Addr} {osl : Array (Option Value)} {f : Addr} {args : Args} {binds : List (Str × Value)}
theorem code_defSC (B : Below A₀ base outer h₀) (F : Fr h₀ L s.heap m) (X₀ : K.In h₀) (N : News h₀ L s.heap news) (T : Top p loose mean mg mb h₀) (XB : K.In base) (TB : Top p loose mean mg mb base) (D : KtsDicts (outer.filterMap (·.frame)) h₀)
    (T0 : KtsTurn (outer.filterMap (·.frame)) g₀ h₀) (hA : A.frames = some (envOf cn cs L a ccd :: outer))
    (ho : K.lookup f = some ⟨oc, od, .func (fnOf name qual params body scope dV kV doc pm an cdv ct), osl⟩) (hcd : codeIn K cdv qual = true) (hroom : A.depth < recursionLimit)
    (hbind : BindsTo s (fnOf name qual params body scope dV kV doc pm an cdv ct) args binds) (hloc : ∀ y ∈ binds, scope.names.lookup y.1 = some .local)
    (h : ∀ g L' h₁, Fr h₀ L g m → Fr g L' h₁ (fun y => binds.reverse.lookup y) → News g L' h₁ news → Below A base (envOf cn cs L a ccd :: outer) g → K.In g → Top p loose mean mg mb g → KtsDicts ((envOf cn cs L a ccd :: outer).filterMap (·.frame)) g →
      wpC (model prog w) (A.deeper (envOf qual scope L' f cdv)) (execs body (envOf qual scope L' f cdv))
        (fun fl s' => LeaveS ((envOf cn cs L a ccd :: outer).filterMap (·.frame)) A₀ base outer K p loose mean mg mb g₀ h₀ L m g R (match fl with | .ret v => v | _ => .none) s')
        (fun e s' => wpAny (model prog w) (A.deeper (envOf qual scope L' f cdv)) (leaving (envOf qual scope L' f cdv) e) (fun _ s'' => R (.error e) s'') (fun e' s'' => R (.error e') s'') s')
        { s with heap := h₁, toks := s.toks + binds.length })
    (hck : cs.kind = .function) (hco : scope.isCoroutine = false) (hgen : scope.isGenerator = false) (hk : scope.kind = .function)
    (hcell : ∀ x ∈ scope.names, x.2 ≠ .cell) : codeC (model prog w) A (.call (.ref f) args) R s := by
  have X := X₀.keeps F.keep
  refine codeC_call_def (fd := fnOf name qual params body scope dV kV doc pm an cdv ct) (body := body) (binds := binds) hroom (X _ _ ho) rfl (T.nolimit.keeps F.keep) (codeRec_of X hcd) rfl hbind hcell hloc (fun h₁ hns hk₁ => ?_) hco hgen hk
  obtain ⟨oL, es, ep, hLg, hLd, hN, hNs, st, B₂⟩ := kts_enter B F N hA hck
  refine wpC_mono (h _ s.heap.objs.size h₁ ⟨hN _ hLg, st, F.above⟩ ⟨hns, fun b o e => hk₁ b o (of_hideAll _ e), Nat.le_of_eq (hideAll_size _ _)⟩
    (fun p hp => ⟨hk₁ _ _ (N p hp).1, Nat.ne_of_lt (Heap.lt_size (N p hp).1), hideAll_none _ (List.mem_map_of_mem hp)⟩) B₂ (X₀.keeps st) (T.keeps st) (fun b hb => by
      rcases kts_mem hb with rfl | hb
      · exact ⟨oL, es, ep, hLg, hLd⟩
      · obtain ⟨o, es', n', ho', hd'⟩ := D b hb
        exact ⟨o, es', n', st b o ho', hd'⟩)) (fun fl s' hl => ?_) fun _ _ y => wpC_of y
  have nL₀ : h₀.get? L = none := kts_self F
  rcases hl with ⟨L', m', news', F', N', k⟩ | ⟨g', L', m', news', T', F', N', k⟩
  · refine k ⟨hN _ (F'.keep _ _ hLg), fun b o e => F'.keep b o (st b o e), F.above⟩ fun p hp => ⟨(N' p hp).1, fun q => ?_, ?_⟩
    · have := (N' p hp).2.2; rw [q, hLg] at this; cases this
    · cases q : h₀.get? p.1 with
      | none => rfl
      | some o => have := (N' p hp).2.2; rw [st _ _ q] at this; cases this
  obtain ⟨sl, hs⟩ := T'.up hLg
  obtain ⟨T₁, S₁⟩ := kts_turn_at (h := s'.heap) (fs := outer.filterMap (·.frame)) (g := h₀)
    (fun b hb => by
      obtain ⟨_, o, ho', _⟩ := B.frames.mem hb
      exact ⟨o, ho'⟩)
    (fun b o e nmem => F'.keep b o (T'.other b o (st b o e) (fun q => by
      rcases kts_mem q with z | z
      · rw [z, nL₀] at e
        cases e
      · exact nmem z)))
    (fun b o e hm => by
      obtain ⟨sl', hs'⟩ := T'.up (st b o e)
      exact ⟨sl', F'.keep _ _ hs'⟩)
  have B₃ : Below A₀ base outer (ktsHeap s'.heap (outer.filterMap (·.frame)) h₀) := ⟨B.stack, fun b o e => T₁.other b o (B.stays b o e) (fun hm => by
    rw [(B.frames.mem hm).1] at e
    cases e), B.frames.of_keeps fun b o e _ => by
    obtain ⟨sl', hs'⟩ := T₁.up e
    exact ⟨_, hs', rfl⟩⟩
  refine k _ (T0.trans T₁) ⟨hNs sl _ (F'.keep _ _ hs), S₁, by rw [T₁.size]; exact F.above⟩ (fun p hp => ⟨(N' p hp).1, fun q => ?_, ?_⟩) B₃ (XB.keeps B₃.stays) (TB.keeps B₃.stays) (D.turn T₁)
  · have := (N' p hp).2.2; rw [q, hs] at this; cases this
  · refine T₁.none_ _ ?_
    cases q : h₀.get? p.1 with
    | none => rfl
    | some o =>
      obtain ⟨sl', hs'⟩ := T'.up (st _ _ q)
      have := (N' p hp).2.2
      rw [hs'] at this
      cases this
end
end Mine
end
section
open PySem PySem.W PySem.Spec PySem.Calls PyProof.Rows
namespace Mine
section
variable {M : Model} {A : Around} {E : Value → Shared → Prop} {s : Shared} {env : Env} {f : Value} {first : List Value} {pos : Pos} {Q : Value → Shared → Prop}
theorem wpC_keep {α : Type} {vs : List Value} {m : Sem α} {Q : α → Shared → Prop} (h : wpC M A m Q E s) : wpC M A (m.keep vs) Q E s :=
  fun Γ p hΓ hc => by rw [Sem.wp_keep]; exact h Γ p hΓ hc
theorem callWith_ofC {P : Heap → Prop} {args : List (Bool × Sem Value)} {keywords : List (Option Str × Sem Value)} (hplain : (args.any (·.1) || keywords.any (·.1.isNone)) = false)
    (hk : ∀ h, P h → ∃ k, (k = Keeper.frame ∨ k = Keeper.machine ∨ k = Keeper.boundFrame) ∧ Looks M h (keeperOf f) k)
    (h : wpAny M A (evalArgs f true args keywords) (fun a s₁ => P s₁.heap ∧ wpC M A (call f (first ++ a.pos) a.kw) Q E s₁) E s) : wpC M A (callWith pos f first args keywords) Q E s := by
  unfold callWith
  refine wpC_bind (wpC_holding (wpC_of (wpAny_mono h (fun a s₁ h₁ => wpC_bind (wpC_of (wpAny_standAt ?_))) fun _ _ x => x)))
  obtain ⟨k, hk', L⟩ := hk _ h₁.1
  simp only [hplain]
  refine wpC_bind (wpC_of (L.here ?_))
  have tail : ∀ {t : Sem Value}, wpC M A t Q E s₁ → wpC M A (t >>= fun r => holding [r] point >>= fun _ => pure r) Q E s₁ :=
    fun ht => wpC_bind (wpC_mono ht (fun r s₂ hr => wpC_of (wpAny_bind (wpAny_holding (wpAny_point (wpAny_pure hr))))) fun _ _ x => x)
  have marked (mk : Value) : wpC M A (callMarked mk f (first ++ a.pos) a.kw) Q E s₁ := by unfold callMarked; exact wpC_keep h₁.2
  rcases hk' with rfl | rfl | rfl <;> dsimp only <;> first | exact tail h₁.2 | (split <;> first | exact tail h₁.2 | exact tail (marked _))
theorem callWith_KC {K : Frag} {h₀ : Heap} {e : PySem.Expr} {rest : List PySem.Expr} (_X : K.In h₀) (hk : keepIn K f = true) (h : wpAny M A (spliced (backTo pos (starEach (e :: rest) env))) (fun vs s₁ => K.In s₁.heap ∧ wpC M A (call f (first ++ vs)) Q E s₁) E s)
    (he : starEach (e :: rest) env = (false, eval e env) :: starEach rest env := by rfl) (hplain : (backTo pos (starEach rest env)).any (·.1) = false := by rfl) :
    wpC M A (callWith pos f first (backTo pos (starEach (e :: rest) env)) []) Q E s := by
  rw [he] at h ⊢
  exact callWith_ofC (by show ((false || (backTo pos (starEach rest env)).any (·.1)) || false) = false; rw [hplain]; rfl) (keeps_K hk) (evalArgs_plain h)
theorem callWith_typeC {T : String} {e : PySem.Expr} {rest : List PySem.Expr}
    (h : wpAny M A (spliced (backTo pos (starEach (e :: rest) env))) (fun vs s₁ => wpC M A (call (.type T) vs) Q E s₁) E s)
    (he : starEach (e :: rest) env = (false, eval e env) :: starEach rest env := by rfl) (hplain : (backTo pos (starEach rest env)).any (·.1) = false := by rfl) :
    wpC M A (callWith pos (.type T) [] (backTo pos (starEach (e :: rest) env)) []) Q E s := by
  rw [he] at h ⊢
  refine callWith_ofC (P := fun _ => True) (by show ((false || (backTo pos (starEach rest env)).any (·.1)) || false) = false; rw [hplain]; rfl) (fun h _ => ⟨.machine, .inr (.inl rfl), Looks.of_pure rfl⟩) (evalArgs_plain (wpAny_mono h (fun a s₁ h₁ => ⟨trivial, h₁⟩) fun _ _ x => x))
theorem wpC_Call_Name {id : Str} {p : Pos} {args : List PySem.Expr} {keywords : List Keyword}
    (h : wpAny M A (eval (.Name id p) env) (fun f s₁ => wpC M A (callWith pos f [] (backTo pos (starEach args env)) (backToKw pos (keywordEach keywords env))) Q E s₁) E s) :
    wpC M A (eval (.Call (.Name id p) args keywords pos) env) Q E s := by
  rw [arm_eval_Call_Name']
  exact wpC_bind (wpC_of h)
theorem wpC_Return_some {e : PySem.Expr} {Q : Flow → Shared → Prop} (h : wpC M A (eval e env) (fun v => Q (.ret v)) E s) : wpC M A (exec (.Return (some e) pos) env) Q E s := by
  rw [exec_Return_some]
  exact wpC_bind (wpC_of (wpAny_standAt (wpC_bind (wpC_mono h (fun v s' hv => wpC_pure hv) fun _ _ x => x))))
theorem wpC_Assign_Name {x : Str} {pos' : Pos} {value : PySem.Expr} {Q : Flow → Shared → Prop}
    (h : wpC M A (eval value env) (fun v s₁ => wpAny M A (storeName env x v) (fun _ => Q .next) E s₁) E s)
    (hs : swapsWith value (some (.Name x pos')) pos.line env = pure false := by rfl) :
    wpC M A (exec (.Assign [.Name x pos'] value pos) env) Q E s := fun Γ p hΓ hc => by
  simp only [exec_Assign_Name env x pos' value pos hs, Sem.wp_bind', Sem.wp_cmd_standAt, Sem.wp_bindName, Sem.wp_pure']
  exact Sem.wp_mono M Γ _ (fun v _ s₁ h₁ => h₁ Γ _ hΓ) (fun _ _ _ h' => h') _ _ (h Γ _ hΓ hc)
theorem wpC_execs_split {l : List Stmt} (n : Nat) {Q : Flow → Shared → Prop} (h : wpC M A (execs (l.take n) env) (fun f s' => match f with | .next => wpC M A (execs (l.drop n) env) Q E s' | f => Q f s') E s) : wpC M A (execs l env) Q E s := by
  rw [← List.take_append_drop n l]
  exact wpC_execs_append h
theorem wpC_attempt {α : Type} {m : Sem α} {Q : Except Value α → Shared → Prop} (h : wpC M A m (fun a s' => Q (.ok a) s') (fun e s' => Q (.error e) s') s) : wpC M A m.attempt Q E s := fun Γ p hΓ hc => by
  rw [Sem.wp_attempt]
  exact h Γ p hΓ hc
end
section
variable {prog : Program} {w : World} {A : Around} {E : Value → Shared → Prop} {s : Shared} {env : Env}
theorem wpC_Try_except {body orelse : List Stmt} {h₀ : ExceptHandler} {hs : List ExceptHandler} {pos : Pos} {Q : Flow → Shared → Prop}
    (h : wpC (model prog w) A (execs body env) (fun f s₁ => match f with | .next => wpAny (model prog w) A (execs orelse env) Q E s₁ | f => Q f s₁)
      (fun e s₁ => wpAny (model prog w) A (noteFrame e env) (fun _ s₂ => wpAny (model prog w) A (setFlight e none) (fun _ s₃ => wpAny (model prog w) A (handleBy e env (h₀ :: hs)) Q E s₃) E s₂) E s₁) s) :
    wpC (model prog w) A (exec (.Try body (h₀ :: hs) orelse [] pos) env) Q E s := by
  rw [arm_exec_Try]
  refine wpC_bind (wpC_of (wpAny_standAt ?_))
  unfold tryStmt
  simp only [List.isEmpty_nil, if_true, List.isEmpty_cons, Bool.false_and, Bool.false_eq_true, if_false]
  refine wpC_bind (wpC_attempt (wpC_mono h (fun f s₁ h₁ => ?_) fun e s₁ h₁ => ?_))
  · cases f <;> first | exact wpC_of h₁ | exact wpC_pure h₁
  · exact wpC_of (wpAny_bind (wpAny_mono h₁ (fun _ _ h₂ => wpAny_bind h₂) fun _ _ x => x))
end
end Mine
end
section
open PySem PySem.W PySem.Spec PySem.Calls PyProof.Rows
namespace Mine
section
variable {M : Model} {A : Around} {E : Value → Shared → Prop} {s : Shared}
theorem wpC_stack {α : Type} {k : List (Code × Pos) → Sem α} {Q : α → Shared → Prop} (h : ∀ l : List (Code × Pos), (l.map (·.1)).any Code.isCaller = true → wpC M A (k l) Q E s) : wpC M A (stack >>= k) Q E s := fun Γ p hΓ hc => by
  rw [Sem.wp_bind']
  show Sem.wp M Γ (.stack .pure) _ _ p s
  rw [Sem.wp_stack, Sem.wp_pure]
  refine h _ ?_ Γ p hΓ hc
  exact hc
theorem notPy {own : List String} {l : List Code} (h : l.any Code.isCaller = true) : pythonCodeMadeTheCall own l = false := by
  unfold pythonCodeMadeTheCall
  rw [Bool.and_eq_false_iff, Bool.and_eq_false_iff]
  left; left
  rw [Bool.not_eq_false']
  exact h
theorem wpC_mark {own : List String} {e : Value} {Q : Unit → Shared → Prop} (h : Q () s) : wpC M A (markTheRefusal own e) Q E s := by
  unfold markTheRefusal
  refine wpC_stack fun l hl => ?_
  rw [notPy hl]
  exact wpC_pure h
end
section
variable {prog : Program} {w : World} {A : Around} {E : Value → Shared → Prop} {s : Shared}
theorem intText_eq (t : Tok) : (int_private% "intFromText") (.str (Str.ofString "") t) [] 10 = (do
    rule "int.__new__.invalid-literal"
    let shown ← pyRepr (.str (Str.ofString "") t)
    let refusal ← newExc (.type "ValueError") [← mkStr (((s!"invalid literal for int() with base {(10 : Nat)}: " : String) ++ ⟨shown.cps.extract 0 200⟩ : Str))]
    markTheRefusal ["int.__new__"] refusal
    raiseNew refusal) := by rfl

theorem intText_bad {t : Tok} {Q : Value → Shared → Prop} (hh : A.handled = none) (h : ∀ h' tk e vs, Heap.MadeExc s.heap h' e "ValueError" vs → E (.ref e) { s with heap := h', toks := tk }) :
    wpC (model prog w) A ((int_private% "intFromText") (.str (Str.ofString "") t) [] 10) Q E s := by
  rw [intText_eq]
  refine wpC_bind (wpC_of (wpAny_rule ?_))
  refine wpC_bind (wpC_of (wpAny_pyRepr_str ?_ (by decide +kernel)))
  refine wpC_bind (wpC_of (wpAny_mkStr ?_ (by decide +kernel)))
  refine wpC_bind (wpC_of (wpAny_newExc_plain plainExc_ValueError (fun h' e hm => ?_)))
  refine wpC_bind (wpC_mark ?_)
  exact wpC_of (wpAny_raiseNew_none hh (h _ _ _ _ hm))
theorem new_bad {t : Tok} {Q : PySem.Fin → Shared → Prop}
    (hx : wpC (model prog w) A ((int_private% "intFromText") (.str (Str.ofString "") t) [] 10) (fun _ _ => False) E s) :
    wpC (model prog w) A (Builtin.«int.__new__» ⟨[.type "int", .str (Str.ofString "") t], []⟩) Q E s := by
  have f1 := F.conv_sub_int
  have f2 := F.madeHere_int
  have f3 := KIN.str_int
  have f4 := KIN.str_idx
  have f5 := KIN.str_trunc
  have f6 : typeOf (.str (Str.ofString "") t) = pure (.type "str") := rfl
  unfold Builtin.«int.__new__»
  dsimp only
  refine wpC_bind (wpC_of ?_)
  repeat wp_step
  rw [if_neg (by decide)]
  refine wpC_bind (wpC_of ?_)
  repeat wp_step
  rw [if_neg (by decide)]
  refine wpC_bind (wpC_of ?_)
  repeat wp_step
  rw [if_neg (by simp), if_neg (by simp)]
  refine wpC_bind (wpC_of ?_)
  repeat wp_step
  refine wpC_bind ?_
  with_unfolding_all (refine wpC_bind (wpC_of ?_))
  repeat wp_step
  dsimp only
  refine wpC_bind (wpC_of ?_)
  repeat wp_step
  rw [if_neg (by simp)]
  refine wpC_bind (wpC_of ?_)
  repeat wp_step
  dsimp only
  refine wpC_bind (wpC_of ?_)
  repeat wp_step
  dsimp only
  rw [show (if ((Str.ofString "").cps.all fun x => decide (x < 128)) = true then (Str.ofString "").cps.toList else Unicode.numberText (Str.ofString "").cps.toList) = [] from by decide +kernel]
  exact wpC_mono hx (fun _ _ x => (x : False).elim) fun _ _ x => x

theorem codeC_builtin {id : String} {args : Args} {b : Builtin} {R : Result → Shared → Prop} (hb : entryFor table id = some b)
    (h : wpC (model prog w) (A.under (.builtin id args)) (b args)
      (fun fin s' => match fin with | .done f => R (.ok f) s' | .again c' => c'.quiet = true ∧ codeC (model prog w) A c' R s') (fun e s' => R (.error e) s') s) :
    codeC (model prog w) A (.builtin id args) R s := by
  refine codeC_of_tree ?_
  show wpC _ _ (match entryFor table id with | some b => b args | none => unsupported ((withoutEnding? id "#data").getD id)) _ _ s
  rw [hb]; exact h
end
end Mine
end
section
open PySem PySem.W PySem.Spec PySem.Calls PyProof.Rows
namespace Mine
section
variable {prog : Program} {w : World} {A : Around} {E : Value → Shared → Prop} {s : Shared}
theorem call_int_bad {t : Tok} {Q : Value → Shared → Prop} (hh : A.handled = none) (h : ∀ h' tk e vs, Heap.MadeExc s.heap h' e "ValueError" vs → E (.ref e) { s with heap := h', toks := tk }) :
    wpC (model prog w) A (call (.type "int") [.str (Str.ofString "") t]) Q E s := by
  have ft := F.called_int
  have hct := F.typeCall_int_1 (.str (Str.ofString "") t)
  obtain ⟨c, tl, hmro⟩ := ft.mro
  have hmade := ft.made
  have hsub := ft.sub
  refine wpC_call (codeC_of_tree ?_)
  show wpC _ _ (callAny (.type "int") _) _ _ _
  refine wpC_pure ⟨Code.quiet_builtin _ (by decide +kernel), codeC_builtin F.entry_type_call ?_⟩
  rw [Around.under_plain (weight_type_call_type "int" _ []) rfl]
  have h1 := ft.notType
  have h2 := ft.canCreate
  unfold Builtin.«type.__call__»
  dsimp only
  rw [if_neg (by decide), if_neg (by rw [h2]; decide)]
  refine wpC_bind (wpC_of ?_)
  repeat (first | assumption | wp_step)
  refine wpC_bind (wpC_of ?_)
  repeat (first | assumption | wp_step)
  rw [if_neg (by simp)]
  refine wpC_bind (wpC_of ?_)
  repeat (first | assumption | wp_step)
  dsimp only
  refine wpC_bind (wpC_of ?_)
  repeat (first | assumption | wp_step)
  refine wpC_bind (wpC_holding (wpC_call (codeC_of_tree ?_)))
  show wpC _ A.in1.in1 (do checkBuiltinCall "int.__new__" ⟨[.type "int", .str (Str.ofString "") t], []⟩; again (.builtin "int.__new__" ⟨[.type "int", .str (Str.ofString "") t], []⟩)) _ _ s
  refine wpC_bind (wpC_of (wpAny_of_eq (F.newCall_int_1 _) ?_))
  refine wpC_pure ⟨plainId_quiet (by decide +kernel) _, codeC_builtin F.entry_int_new ?_⟩
  rw [Around.under_plainId (by decide +kernel) _]
  refine new_bad (intText_bad hh fun h' tk e vs hm => ?_)
  exact h h' tk e vs hm
end
end Mine
end
section
open PySem PySem.W PySem.Spec PySem.Calls PyProof.Rows
namespace Mine
theorem rows_HeardV : True := by
  k_with_none
  w_top off
  k_with "storeName" => ((k_here; k_dflt (refine' storeL9 ?F9z ?N9z ?_ ?a9z ?b9z; (case F9z => k_asm); (case N9z => k_asm); (case a9z => rfl); (case b9z => rfl); k_whole; intro h' m' F' N'; (try k_sweep))))
  k_with "ktr_room" => (first | exact rmK (k := 0) (by assumption) (by decide) | exact rmK (k := 1) (by assumption) (by decide) | exact rmK (k := 2) (by assumption) (by decide) | exact rmK (k := 3) (by assumption) (by decide) | exact rmK (k := 4) (by assumption) (by decide) | exact rmK (k := 5) (by assumption) (by decide) | exact rmK (k := 6) (by assumption) (by decide) | exact rmK (k := 7) (by assumption) (by decide) | exact rmK (k := 8) (by assumption) (by decide) | exact rmK (k := 9) (by assumption) (by decide))
  k_with "ktr_units" => (first | exact rmK (k := 0) (by assumption) (by decide) | exact rmK (k := 1) (by assumption) (by decide) | exact rmK (k := 2) (by assumption) (by decide) | exact rmK (k := 3) (by assumption) (by decide) | exact rmK (k := 4) (by assumption) (by decide) | exact rmK (k := 5) (by assumption) (by decide) | exact rmK (k := 6) (by assumption) (by decide) | exact rmK (k := 7) (by assumption) (by decide) | exact rmK (k := 8) (by assumption) (by decide) | exact rmK (k := 9) (by assumption) (by decide) | exact rmK (k := 10) (by assumption) (by decide) | exact rmK (k := 12) (by assumption) (by decide) | exact rmK (k := 13) (by assumption) (by decide) | exact rmK (k := 14) (by assumption) (by decide) | exact rmK (k := 15) (by assumption) (by decide) | exact rmK (k := 16) (by assumption) (by decide) | exact rmK (k := 17) (by assumption) (by decide) | exact rmK (k := 18) (by assumption) (by decide) | exact rmK (k := 20) (by assumption) (by decide) | exact rmK (k := 21) (by assumption) (by decide) | exact rmK (k := 22) (by assumption) (by decide) | exact rmK (k := 23) (by assumption) (by decide) | exact rmK (k := 24) (by assumption) (by decide) | exact rmK (k := 25) (by assumption) (by decide) | exact rmK (k := 26) (by assumption) (by decide) | exact rmK (k := 30) (by assumption) (by decide) | exact rmK (k := 32) (by assumption) (by decide) | exact rmK (k := 33) (by assumption) (by decide) | exact rmK (k := 34) (by assumption) (by decide) | exact rmK (k := 36) (by assumption) (by decide) | exact rmK (k := 64) (by assumption) (by decide) | exact rmK (k := 65) (by assumption) (by decide) | exact rmK (k := 66) (by assumption) (by decide) | exact rmK (k := 68) (by assumption) (by decide))
  trivial
theorem rows_HeardV_0 : True := by
  k_with "call type:int" => ((k_here; (with_reducible show wpAny _ _ (call (Value.type "int") [Value.str _ _]) _ _ _); (rename RepF _ _ _ _ _ => lR'); (rename IntOk _ _ _ => lI'); (refine int_r lR' lI' (by assumption) (by assumption) ?_); (try dsimp only)))
  k_with "ite" => (first | (with_reducible refine' ite_kT' ?h9z ?_; (case h9z => with_reducible assumption)) | (with_reducible refine' ite_kF' ?h9z ?_; (case h9z => first | with_reducible assumption | exact RepF.r0 (by with_reducible assumption))))
  k_with "call builtin:str.find" => ((k_here; (with_reducible show wpAny _ _ (call (Value.builtin _) [Value.str _ _, Value.str _ _]) _ _ _); (rename RepF _ _ _ _ _ => lR'); (refine find_r lR' ?_); (try dsimp only)))
  k_with "call builtin:str.find" => ((k_here; (with_reducible show wpAny _ _ (call (Value.builtin _) [Value.str _ _, Value.str _ _, Value.int _ _]) _ _ _); (rename RepF _ _ _ _ _ => lR'); (refine find3_r lR' (by omega) ?_); (try dsimp only)))
  k_with "subscriptTail Name BinOp str int" => ((k_here; (with_reducible show wpAny _ _ (subscriptTail _ _ (Value.str _ _) (Value.int _ _)) _ _ _); (rename RepF _ _ _ _ _ => lR'); (first | (refine item5_r lR' (by omega) ?_) | (refine itemk_r lR' (by omega) ?_)); (try dsimp only)))
  k_with "call type:str" => ((k_here; (with_reducible show wpAny _ _ (call (Value.type "str") [Value.ref _]) _ _ _); k_dflt (refine' strGot ?u9z ?X9z ?F9z ?N9z ?G9z ?hs9z ?hsub9z ?_; (case G9z => assumption); (case N9z => assumption); (case X9z => k_asm); (case F9z => k_asm); (case u9z => ktr_units); (case hs9z => k_is); (case hsub9z => k_is); k_whole)))
  k_with "call ref" => ((k_here; (with_reducible show wpAny _ _ (call (Value.ref 58) _) _ _ _); (refine wpAny_call ?_); (k_dflt (refine' code_defS ?k19z ?k29z ?k39z ?k49z ?k59z ?XB9z ?TB9z ?D9z ?T09z ?kA9z ?k69z ?k79z ?k89z ?k99z ?kB9z ?_ ?cK9z ?c29z ?c39z ?c49z ?c59z; (case kA9z => exact rfl); (case k29z => k_asm); (case k19z => k_asm); (case XB9z => assumption); (case TB9z => assumption); (case D9z => assumption); (case T09z => first | assumption | exact KtsTurn.refl); (case k39z => k_asm); (case k49z => k_asm); (case k59z => k_asm); (case k69z => k_is); (case k79z => k_is); (case k89z => ktr_room); (case k99z => exact BindsTo.of_eq rfl); (case kB9z => exact locs rfl); (case cK9z => exact rfl); (case c29z => exact rfl); (case c39z => exact rfl); (case c49z => exact rfl); (case c59z => decide); k_whole; intro g' L' h' FG' F' N' B' X' T' D'; (try dsimp only); (try k_lift B'); (try k_fold)))))
  trivial
theorem int_rC {prog : Program} {w : World} {A : Around} {E : Value → Shared → Prop} {s : Shared} {R I : Str} {k ca cb : Nat} {t : Tok} {Q : Value → Shared → Prop} {l : List (Str × Tok)} {y : Str} (hh : A.handled = none) (P : RepF R I k ca cb) (hemp : (Txt.split I ⟨#[ca]⟩)[3]? = some (Str.ofString ""))
    (h : l.map (·.1) = Txt.split (Txt.slice R (some (4 + 1)) (some (k : Int))) ⟨#[ca]⟩) (hy : (l.map (·.1))[Int.toNat 3]? = some y)
    (hE : ∀ h' tk e vs, Heap.MadeExc s.heap h' e "ValueError" vs → E (.ref e) { s with heap := h', toks := tk }) : wpC (model prog w) A (call (.type "int") [.str y t]) Q E s := by
  have h2 : l.map (·.1) = Txt.split I ⟨#[ca]⟩ := by rw [h]; exact congrArg (fun q => Txt.split q ⟨#[ca]⟩) P.r5
  rw [h2, show (Txt.split I ⟨#[ca]⟩)[Int.toNat 3]? = (Txt.split I ⟨#[ca]⟩)[3]? from rfl, hemp] at hy
  have := Option.some.inj hy
  subst this
  exact call_int_bad hh hE
section
variable {w : World} {mean : ExcName → Option Value} {mg mb : Str → Option Value} {news : List (Addr × Obj)} {dp un : Nat} {gd : Option (List Code)} {cn : Str} {cs : Scope} {a : Addr} {ccd : Value} {cl : List (Str × Addr)} {A₀ : Around} {base h₀ hV : Heap} {L : Addr} {m : Str → Option Value} {s : Shared} {Q E : Value → Shared → Prop}
  (V : LooseAre looseV mg hV) (hB : Below A₀ base [] h₀) (F : Fr h₀ L s.heap m) (KX : (hd.heap_39 w.params).In h₀) (T : Top hd.view_39 (looseW hd.view_39 looseN) mean mg mb h₀) (XB : (hd.heap_39 w.params).In base) (TB : Top hd.view_39 (looseW hd.view_39 looseN) mean mg mb base) (hk : cs.kind = .function)
  (hdp : dp + 9 < recursionLimit) (hun : un + 30 < cLine)
include V hB F KX T XB TB hk hdp hun
theorem heard_all {R I : Str} {k ca cb : Nat} {t : Tok} {D : Addr} {x y z : UInt64} {t1 t2 t3 : Tok} (P : RepF R I k ca cb) (hR : R.length ≤ 200) (N : News h₀ L s.heap ((D, tup3 x t1 y t2 z t3) :: news)) (hI : I.length ≤ 200)
    (hbad : ((⟨#[ca]⟩ : Str) != ⟨#[cb]⟩) = true ∨ (Txt.split I ⟨#[ca]⟩).length ≠ 5 → ∀ (l' : Addr) (u1 u2 : Tok) (h' : Heap) (tk' : Nat) (news' : List (Addr × Obj)), Fr h₀ L h' m → News h₀ L h' ((l', W.listOf #[.str (Str.ofString "proto") u1, .str R u2] 0) :: news') → (∀ p ∈ (D, tup3 x t1 y t2 z t3) :: news, p ∈ news') → Q (.ref l') { s with heap := h', toks := tk' })
    (hgood : ((⟨#[ca]⟩ : Str) != ⟨#[cb]⟩) = false → (Txt.split I ⟨#[ca]⟩).length = 5 →
      ((Txt.split I ⟨#[ca]⟩)[3]? = some (Str.ofString "") ∧ ∀ (l' : Addr) (u1 : Tok) (h' : Heap) (tk' : Nat) (news' : List (Addr × Obj)), Fr h₀ L h' m → News h₀ L h' ((l', W.listOf #[.str (Str.ofString "value") u1] 0) :: news') → (∀ p ∈ (D, tup3 x t1 y t2 z t3) :: news, p ∈ news') → Q (.ref l') { s with heap := h', toks := tk' }) ∨
      ∃ n, IntOk I ca n ∧ ∀ (l' : Addr) (u2 : Tok) (h' : Heap) (tk' : Nat) (news' : List (Addr × Obj)), Fr h₀ L h' m → News h₀ L h' ((l', { cls := .type "tuple", data := .seq #[.float x t1, .int n u2] }) :: news') → (∀ p ∈ (D, tup3 x t1 y t2 z t3) :: news, p ∈ news') → Q (.ref l') { s with heap := h', toks := tk' }) :
    wpC (model Challenge.rw_pg0104_01.row.prog w) (ktrTop dp un gd cn cs L a ccd cl []) (call (.ref 128) [.str R t, .ref D]) Q E s := by
  have hk0 : decide ((k : Int) < 0) = false := by simp
  revert KX; k_fill; intro KX
  refine wpC_call ?_
  k_dflt (refine' code_defXC ?k1 ?k2 ?k3 ?k4 ?k5 ?kA ?kF ?kK ?k6 ?k7 ?k8 ?k9 ?kB ?_ ?c2 ?c3 ?c4 ?c5; (case kA => exact rfl); (case kF => exact rfl); (case kK => assumption); (case k1 => k_asm); (case k2 => k_asm); (case k3 => k_asm); (case k4 => k_asm); (case k5 => k_asm); (case k6 => k_is); (case k7 => k_is); (case k8 => ktr_room); (case k9 => exact BindsTo.of_eq rfl); (case c5 => decide); (case kB => exact locs rfl); (case c2 => exact rfl); (case c3 => exact rfl); (case c4 => exact rfl); k_whole; intro g' L' h' FG' F' N' B' X' T' D'; (try dsimp only); (try k_lift B'); (try k_fold))
  refine wpC_execs_cons (wpC_Try_except (wpC_execs_cons (wpC_Return_some (wpC_Call_Name ?_))))
  k_steps
  k_dflt (refine' callWith_KC ?k1 ?k2 ?_; (case k1 => k_asm); (case k2 => k_is); k_whole)
  k_steps
  refine wpC_call ?_
  k_dflt (refine' code_defSC ?k1 ?k2 ?k3 ?k4 ?k5 ?XB ?TB ?D ?T0 ?kA ?k6 ?k7 ?k8 ?k9 ?kB ?_ ?cK ?c2 ?c3 ?c4 ?c5; (case kA => exact rfl); (case k2 => k_asm); (case k1 => k_asm); (case XB => assumption); (case TB => assumption); (case D => assumption); (case T0 => first | assumption | exact KtsTurn.refl); (case k3 => k_asm); (case k4 => k_asm); (case k5 => k_asm); (case k6 => k_is); (case k7 => k_is); (case k8 => ktr_room); (case k9 => exact BindsTo.of_eq rfl); (case kB => exact locs rfl); (case cK => exact rfl); (case c2 => exact rfl); (case c3 => exact rfl); (case c4 => exact rfl); (case c5 => decide); k_whole; intro g' L' h' FG' F' N' B' X' T' D'; (try dsimp only); (try k_lift B'); (try k_fold))
  refine wpC_execs_split 9 (wpC_of ?_)
  dsimp only [List.take, List.drop]
  (try k_fold)
  k_steps
  · refine hbad (.inl (by assumption)) _ _ _ _ _ _ (by assumption) (by assumption) ?_
    first | exact (fun p hp => hp) | exact (fun p hp => List.mem_cons_of_mem _ hp)
  · refine hbad (.inr (noFive2 (R := R) (I := I) (k := k) (ca := ca) (cb := cb) (by assumption) (by assumption) (by assumption))) _ _ _ _ _ _ (by assumption) (by assumption) ?_
    first | exact (fun p hp => hp) | exact (fun p hp => List.mem_cons_of_mem _ hp)
  rcases hgood (by assumption) (five (R := R) (I := I) (k := k) (ca := ca) (cb := cb) (by assumption) (by assumption) (by assumption)) with ⟨hemp, hret⟩ | ⟨n, hint, hret⟩
  · refine wpC_execs_cons (wpC_Assign_Name (wpC_Call_Name ?_))
    k_steps
    refine callWith_typeC ?_
    k_steps
    refine int_rC (R := R) (I := I) (k := k) (ca := ca) (cb := cb) rfl (by assumption) hemp (by assumption) (by assumption) ?_
    intro h9 tk9 e9 vs9 hm9
    dsimp only
    k_steps
    all_goals first
      | exact hret _ _ _ _ _ (by assumption) (by assumption) (fun p hp => hp)
      | exact hret _ _ _ _ _ (by assumption) (by assumption) (fun p hp => List.mem_cons_of_mem _ hp)
      | exact hret _ _ _ _ _ (by assumption) (by assumption) (fun p hp => List.mem_cons_of_mem _ (List.mem_cons_of_mem _ hp))
      | exact hret _ _ _ _ _ (by assumption) (by assumption) (fun p hp => List.mem_cons_of_mem _ (List.mem_cons_of_mem _ (List.mem_cons_of_mem _ hp)))
  · refine wpC_of ?_
    k_steps
    all_goals exact hret _ _ _ _ _ (by assumption) (by assumption) (fun p hp => List.mem_cons_of_mem _ hp)
end
end Mine
end
section
open PySem PySem.W PySem.Spec PySem.Calls PyProof.Rows
namespace Mine
open Fl
noncomputable def bodyOf : List Stmt → List Stmt
  | [.For _ _ b _ _] => b
  | _ => []
noncomputable def loopB : List Stmt := bodyOf ((lawRec.body.drop 18).take 1)
theorem fmuMap {x : Str} {v : Value} {stored : List Str} {u u' : Str → Option Value} : ∀ {l : List (Str × Value)}, (∀ p ∈ l, stored.contains p.1 = false) →
    (fun y => if y = x then some v else if stored.contains y = true then u' y else fmu l u y) = fmu ((x, v) :: l) (fun y => if stored.contains y = true then u' y else u y)
  | l, h => by
    funext z
    show _ = if z = x then some v else fmu l _ z
    by_cases c : z = x
    · rw [if_pos c, if_pos c]
    · rw [if_neg c, if_neg c]
      clear c
      induction l with
      | nil => rfl
      | cons p r ih =>
        show _ = if z = p.1 then some p.2 else fmu r _ z
        have h1 := h p List.mem_cons_self
        have ih' := ih (fun q hq => h q (List.mem_cons_of_mem _ hq))
        by_cases d : z = p.1
        · rw [if_pos d, if_neg (by rw [d, h1]; decide)]
          show (if z = p.1 then some p.2 else fmu r u z) = _
          rw [if_pos d]
        · rw [if_neg d, ← ih']
          show (if _ then _ else (if z = p.1 then some p.2 else fmu r u z)) = _
          rw [if_neg d]
theorem fmuEnd {x : Str} {stored : List Str} {u u' : Str → Option Value} {a l : List (Str × Value)} (h : ∀ p ∈ a, p.1 = x ∨ p.1 ∈ stored) (hl : ∀ p ∈ l, stored.contains p.1 = false) :
    ∀ z, z ≠ x → stored.contains z = false → fmu (a ++ l) (fun y => if stored.contains y = true then u' y else u y) z = fmu l u z := by
  intro z h1 h2
  induction a with
  | nil =>
    clear h
    show fmu l _ z = _
    induction l with
    | nil => show (if stored.contains z = true then _ else _) = _; rw [h2]; rfl
    | cons p r ih =>
      show (if z = p.1 then some p.2 else fmu r _ z) = if z = p.1 then some p.2 else fmu r u z
      rw [ih fun q hq => hl q (List.mem_cons_of_mem _ hq)]
  | cons p r ih =>
    show (if z = p.1 then some p.2 else fmu (r ++ l) _ z) = _
    have hp : z ≠ p.1 := by
      intro e
      rcases h p List.mem_cons_self with q | q
      · exact h1 (e.trans q)
      · rw [e, List.contains_iff_mem.mpr q] at h2
        cases h2
    rw [if_neg hp]
    exact ih fun q hq => h q (List.mem_cons_of_mem _ hq)
/-- the law's names when the loop over the cuts begins -/
noncomputable abbrev fL (c f e1 e2 port : Int) (n th fo : Nat) (CL DP D : Addr) (tp tt u1 u2 u3 : Tok) : List (Str × Value) :=
  [(S "port", .int port tp), (S "places", .ref DP), (S "colours", .ref CL), (S "text", .str (textOf c f e1 e2 n) tt), (S "walk", .ref D), (S "size", .int (n : Int) u3), (S "fourth", .int (fo : Int) u2), (S "third", .int (th : Int) u1)]
section
variable {prog : Program} {w : World} {A : Around} {E : Value → Shared → Prop} {hp : Heap} {g : Array GenState} {d : Drawn} {tk : Nat} {os : OsState} {h₀ : Heap} {L : Addr} {m : Str → Option Value} {news : List (Addr × Obj)} {value slice : PySem.Expr} {t : Tok} {Q : Value → Shared → Prop}
theorem cut9 {c f e1 e2 : Int} {i n : Nat} {uj : Tok} (P : Par c f e1 e2) (hi : i ≤ n) (hn : n ≤ 66) (F : Fr h₀ L hp m) (N : News h₀ L hp news)
    (h : ∀ h' t' k, Fr h₀ L h' m → News h₀ L h' news → Q (.str (textOf c f e1 e2 i) t') ⟨h', g, d, k, os⟩)
    (hs : subscripted slice false (.str (textOf c f e1 e2 n) t) (.ref hp.objs.size) = operate [.ref hp.objs.size, .str (textOf c f e1 e2 n) t] (getItem (.str (textOf c f e1 e2 n) t) (.ref hp.objs.size))) (ht : ∀ r, letTemporaryGo value (.str (textOf c f e1 e2 n) t) r = pure ()) :
    wpAny (model prog w) A (subscriptTail value slice (.str (textOf c f e1 e2 n) t) (.ref hp.objs.size)) Q E ⟨hp.push { cls := .type "slice", data := .fields #[.none, .int (i : Int) uj, .none] }, g, d, tk, os⟩ :=
  slice_strN_ns (s := ⟨hp, g, d, tk, os⟩) F N (fun h' t' k F' N' => by rw [cut_text P hi]; exact h h' t' k F' N') hs ht (by rw [textLen P hn, sizeLine_eq]; (first | lia | omega))
theorem head9 {c f e1 e2 : Int} {i : Nat} {uj : Tok} (P : Par c f e1 e2) (hi : i ≤ 66) (F : Fr h₀ L hp m) (N : News h₀ L hp news)
    (h : ∀ h' t' k, Fr h₀ L h' m → News h₀ L h' news → (Txt.slice (textOf c f e1 e2 i) none (some 1)).length ≤ 66 → Q (.str (Txt.slice (textOf c f e1 e2 i) none (some 1)) t') ⟨h', g, d, k, os⟩)
    (hs : subscripted slice false (.str (textOf c f e1 e2 i) t) (.ref hp.objs.size) = operate [.ref hp.objs.size, .str (textOf c f e1 e2 i) t] (getItem (.str (textOf c f e1 e2 i) t) (.ref hp.objs.size))) (ht : ∀ r, letTemporaryGo value (.str (textOf c f e1 e2 i) t) r = pure ()) :
    wpAny (model prog w) A (subscriptTail value slice (.str (textOf c f e1 e2 i) t) (.ref hp.objs.size)) Q E ⟨hp.push { cls := .type "slice", data := .fields #[.none, .int 1 uj, .none] }, g, d, tk, os⟩ :=
  slice_strN_ns (s := ⟨hp, g, d, tk, os⟩) F N (fun h' t' k F' N' => h h' t' k F' N' (by have := PyProof.Txt.length_slice_le (textOf c f e1 e2 i) none (some 1); rw [textLen P hi] at this; (first | lia | omega))) hs ht (by rw [textLen P hi, sizeLine_eq]; (first | lia | omega))
theorem rest9 {c f e1 e2 : Int} {i : Nat} {uj : Tok} (P : Par c f e1 e2) (hi : i ≤ 66) (F : Fr h₀ L hp m) (N : News h₀ L hp news)
    (h : ∀ h' t' k, Fr h₀ L h' m → News h₀ L h' news → (Txt.slice (textOf c f e1 e2 i) (some 1) none).length ≤ 66 → Q (.str (Txt.slice (textOf c f e1 e2 i) (some 1) none) t') ⟨h', g, d, k, os⟩)
    (hs : subscripted slice false (.str (textOf c f e1 e2 i) t) (.ref hp.objs.size) = operate [.ref hp.objs.size, .str (textOf c f e1 e2 i) t] (getItem (.str (textOf c f e1 e2 i) t) (.ref hp.objs.size))) (ht : ∀ r, letTemporaryGo value (.str (textOf c f e1 e2 i) t) r = pure ()) :
    wpAny (model prog w) A (subscriptTail value slice (.str (textOf c f e1 e2 i) t) (.ref hp.objs.size)) Q E ⟨hp.push { cls := .type "slice", data := .fields #[.int 1 uj, .none, .none] }, g, d, tk, os⟩ :=
  slice_strN_sn (s := ⟨hp, g, d, tk, os⟩) F N (fun h' t' k F' N' => h h' t' k F' N' (by have := PyProof.Txt.length_slice_le (textOf c f e1 e2 i) (some 1) none; rw [textLen P hi] at this; (first | lia | omega))) hs ht (by rw [textLen P hi, sizeLine_eq]; (first | lia | omega))
theorem add9 {s : Shared} {x y : Str} {k l : Nat} {u : Tok} (hx : x.length ≤ k) (hy : y.length ≤ l) (hk : k + l ≤ 10000) (h : ∀ t' tk, (x ++ y).length ≤ k + l → Q (.str (x ++ y) t') { s with toks := tk }) :
    wpAny (model prog w) A (binaryOp .Add (.str x t) (.str y u)) Q E s :=
  PyProof.Rows.add_str (fun t' tk => h t' tk (by rw [Str.length_append]; (first | lia | omega))) (by rw [sizeLine_eq]; (first | lia | omega))
theorem lit1 : (Str.ofString "229 (").length ≤ 5 := by decide +kernel
theorem lit2 : (Str.ofString "w").length ≤ 1 := by decide +kernel
theorem lit3 : (Str.ofString ") walked").length ≤ 8 := by decide +kernel
end
end Mine
end
section
open PySem PySem.W PySem.Spec PySem.Calls PyProof.Rows
namespace Mine
theorem rows_LawQ1 : True := by
  k_with_none
  w_top off
  k_with "ktr_room" => (first | exact rmK (k := 0) (by assumption) (by decide) | exact rmK (k := 1) (by assumption) (by decide) | exact rmK (k := 2) (by assumption) (by decide) | exact rmK (k := 3) (by assumption) (by decide) | exact rmK (k := 4) (by assumption) (by decide) | exact rmK (k := 5) (by assumption) (by decide) | exact rmK (k := 6) (by assumption) (by decide) | exact rmK (k := 7) (by assumption) (by decide) | exact rmK (k := 8) (by assumption) (by decide) | exact rmK (k := 9) (by assumption) (by decide))
  k_with "ktr_units" => (first | exact rmK (k := 0) (by assumption) (by decide) | exact rmK (k := 1) (by assumption) (by decide) | exact rmK (k := 2) (by assumption) (by decide) | exact rmK (k := 3) (by assumption) (by decide) | exact rmK (k := 4) (by assumption) (by decide) | exact rmK (k := 5) (by assumption) (by decide) | exact rmK (k := 6) (by assumption) (by decide) | exact rmK (k := 7) (by assumption) (by decide) | exact rmK (k := 8) (by assumption) (by decide) | exact rmK (k := 9) (by assumption) (by decide) | exact rmK (k := 10) (by assumption) (by decide) | exact rmK (k := 12) (by assumption) (by decide) | exact rmK (k := 13) (by assumption) (by decide) | exact rmK (k := 14) (by assumption) (by decide) | exact rmK (k := 15) (by assumption) (by decide) | exact rmK (k := 16) (by assumption) (by decide) | exact rmK (k := 17) (by assumption) (by decide) | exact rmK (k := 18) (by assumption) (by decide) | exact rmK (k := 20) (by assumption) (by decide) | exact rmK (k := 21) (by assumption) (by decide) | exact rmK (k := 22) (by assumption) (by decide) | exact rmK (k := 23) (by assumption) (by decide) | exact rmK (k := 24) (by assumption) (by decide) | exact rmK (k := 25) (by assumption) (by decide) | exact rmK (k := 26) (by assumption) (by decide) | exact rmK (k := 30) (by assumption) (by decide) | exact rmK (k := 32) (by assumption) (by decide) | exact rmK (k := 33) (by assumption) (by decide) | exact rmK (k := 34) (by assumption) (by decide) | exact rmK (k := 36) (by assumption) (by decide) | exact rmK (k := 64) (by assumption) (by decide) | exact rmK (k := 65) (by assumption) (by decide) | exact rmK (k := 66) (by assumption) (by decide) | exact rmK (k := 68) (by assumption) (by decide))
  trivial
open Fl
theorem rows_LawQ1_0 : True := by
  k_with "subscriptTail Name Slice str ref" => ((k_here; (with_reducible show wpAny _ _ (subscriptTail _ (PySem.Expr.Slice none (some (PySem.Expr.Name _ _)) none _) (Value.str _ _) (Value.ref _)) _ _ _); (try dsimp only); (rename Par _ _ _ _ => lP'); (rename Fr _ _ _ _ => lF'); (rename News _ _ _ _ => lN'); k_dflt (refine' cut9 lP' ?a9z ?b9z lF' lN' ?_ ?s9z ?t9z; (case a9z => first | with_reducible assumption | assumption); (case b9z => first | with_reducible assumption | assumption); (case s9z => with_unfolding_all rfl); (case t9z => kmk_pure)); intro h' t' k' F' N'; clear lF' lN'; (try dsimp only); (try k_fold)))
  k_with "subscriptTail Name Slice str ref" => ((k_here; (with_reducible show wpAny _ _ (subscriptTail _ (PySem.Expr.Slice none (some (PySem.Expr.Constant _ _ _)) none _) (Value.str _ _) (Value.ref _)) _ _ _); (try dsimp only); (rename Par _ _ _ _ => lP'); (rename Fr _ _ _ _ => lF'); (rename News _ _ _ _ => lN'); k_dflt (refine' head9 lP' ?a9z lF' lN' ?_ ?s9z ?t9z; (case a9z => first | with_reducible assumption | assumption); (case s9z => with_unfolding_all rfl); (case t9z => kmk_pure)); intro h' t' k' F' N' z'; clear lF' lN'; (try dsimp only); (try k_fold)))
  k_with "subscriptTail Name Slice str ref" => ((k_here; (with_reducible show wpAny _ _ (subscriptTail _ (PySem.Expr.Slice (some _) none none _) (Value.str _ _) (Value.ref _)) _ _ _); (try dsimp only); (rename Par _ _ _ _ => lP'); (rename Fr _ _ _ _ => lF'); (rename News _ _ _ _ => lN'); k_dflt (refine' rest9 lP' ?a9z lF' lN' ?_ ?s9z ?t9z; (case a9z => first | with_reducible assumption | assumption); (case s9z => with_unfolding_all rfl); (case t9z => kmk_pure)); intro h' t' k' F' N' z'; clear lF' lN'; (try dsimp only); (try k_fold)))
  k_with "binaryOp Add str str" => ((k_here; (with_reducible show wpAny _ _ (binaryOp Operator.Add (Value.str _ _) (Value.str _ _)) _ _ _); k_dflt (refine' add9 ?a9z ?b9z ?c9z ?_; (case a9z => first | with_reducible assumption | exact lit1 | exact lit2 | exact lit3 | assumption); (case b9z => first | with_reducible assumption | exact lit1 | exact lit2 | exact lit3 | assumption); (case c9z => decide)); intro t' k' z'; (try dsimp only); (try k_fold)))
  k_with "k_steps" => (repeat' (first | (k_unfold; (try dsimp only)) | (k_end; wrow_close) | ((with_reducible show wpAny _ _ (subscriptTail _ _ _ _) _ _ _); walk1) | ((try dsimp only); walk1) | walk1 | (leave1; walk_say "STEP leave1"; try dsimp only) | fail "no step"))
  trivial
section
variable {w : World} {mean : ExcName → Option Value} {mg mb : Str → Option Value} {dp un : Nat} {gd : Option (List Code)} {a : Addr} {ccd : Value} {outer : List Env} {A₀ : Around} {base h₀ hV : Heap} {L : Addr} {s : Shared} {Q : Flow → Shared → Prop} {E : Value → Shared → Prop} {cF cO c1 cC : Addr}
  (V : LooseAre looseV mg hV) (hB : Below A₀ base [] h₀) (KX : (hd.heap_39 w.params).In h₀) (T : Top hd.view_39 (looseW hd.view_39 looseN) mean mg mb h₀)
  (hdp : dp + 9 < recursionLimit) (hun : un + 100 < cLine)
include V hB KX T hdp hun
theorem law_q1 {CL DP D : Addr} {c f e1 e2 port : Int} {n th fo i : Nat} {t u1 u2 u3 tt tp : Tok} {u : Str → Option Value} {news : List (Addr × Obj)} (P : Fl.Par c f e1 e2) (hn : n ≤ 66) (hi : i ≤ n) (hi2 : i ≤ 66)
    (F : Fr h₀ L s.heap (fmu ((S "cut", .int (i : Int) t) :: fL c f e1 e2 port n th fo CL DP D tp tt u1 u2 u3) u)) (N : News h₀ L s.heap news)
    (hret : ∀ (h' : Heap) (tk' : Nat) (ts tr : Tok), Fr h₀ L h' (fmu ((S "reply", .str (repS (cutI c f e1 e2 i)) tr) :: (S "shown", .str (textOf c f e1 e2 i) ts) :: (S "cut", .int (i : Int) t) :: fL c f e1 e2 port n th fo CL DP D tp tt u1 u2 u3) u) → News h₀ L h' news → Q .next { s with heap := h', toks := tk' }) :
    wpAny (model Challenge.rw_pg0104_01.row.prog w) (ktrTop dp un gd (S "law") lawS L a ccd (lawCl cF cO c1 cC) []) (execs (loopB.take 2) (envX (S "law") lawS L a ccd (lawCl cF cO c1 cC))) Q E s := by
  revert KX; k_fill; intro KX
  dsimp only [loopB, bodyOf, lawRec, dOf, List.take, List.drop]
  dsimp only [fL] at F
  have er := reply_is P i
  k_steps
  rename Fr _ _ _ _ => F9
  rw [er] at F9
  exact hret _ _ _ _ F9 (by assumption)
end
end Mine
end
section
open PySem PySem.W PySem.Spec PySem.Calls PyProof.Rows
namespace Mine
theorem rows_LawQ2 : True := by
  k_with_none
  w_top off
  k_with "storeName" => ((k_here; k_dflt (refine' storeL9 ?F9z ?N9z ?_ ?a9z ?b9z; (case F9z => k_asm); (case N9z => k_asm); (case a9z => rfl); (case b9z => rfl); k_whole; intro h' m' F' N'; (try k_sweep))))
  k_with "ktr_room" => (first | exact rmK (k := 0) (by assumption) (by decide) | exact rmK (k := 1) (by assumption) (by decide) | exact rmK (k := 2) (by assumption) (by decide) | exact rmK (k := 3) (by assumption) (by decide) | exact rmK (k := 4) (by assumption) (by decide) | exact rmK (k := 5) (by assumption) (by decide) | exact rmK (k := 6) (by assumption) (by decide) | exact rmK (k := 7) (by assumption) (by decide) | exact rmK (k := 8) (by assumption) (by decide) | exact rmK (k := 9) (by assumption) (by decide))
  k_with "ktr_units" => (first | exact rmK (k := 0) (by assumption) (by decide) | exact rmK (k := 1) (by assumption) (by decide) | exact rmK (k := 2) (by assumption) (by decide) | exact rmK (k := 3) (by assumption) (by decide) | exact rmK (k := 4) (by assumption) (by decide) | exact rmK (k := 5) (by assumption) (by decide) | exact rmK (k := 6) (by assumption) (by decide) | exact rmK (k := 7) (by assumption) (by decide) | exact rmK (k := 8) (by assumption) (by decide) | exact rmK (k := 9) (by assumption) (by decide) | exact rmK (k := 10) (by assumption) (by decide) | exact rmK (k := 12) (by assumption) (by decide) | exact rmK (k := 13) (by assumption) (by decide) | exact rmK (k := 14) (by assumption) (by decide) | exact rmK (k := 15) (by assumption) (by decide) | exact rmK (k := 16) (by assumption) (by decide) | exact rmK (k := 17) (by assumption) (by decide) | exact rmK (k := 18) (by assumption) (by decide) | exact rmK (k := 20) (by assumption) (by decide) | exact rmK (k := 21) (by assumption) (by decide) | exact rmK (k := 22) (by assumption) (by decide) | exact rmK (k := 23) (by assumption) (by decide) | exact rmK (k := 24) (by assumption) (by decide) | exact rmK (k := 25) (by assumption) (by decide) | exact rmK (k := 26) (by assumption) (by decide) | exact rmK (k := 30) (by assumption) (by decide) | exact rmK (k := 32) (by assumption) (by decide) | exact rmK (k := 33) (by assumption) (by decide) | exact rmK (k := 34) (by assumption) (by decide) | exact rmK (k := 36) (by assumption) (by decide) | exact rmK (k := 64) (by assumption) (by decide) | exact rmK (k := 65) (by assumption) (by decide) | exact rmK (k := 66) (by assumption) (by decide) | exact rmK (k := 68) (by assumption) (by decide))
  trivial
open Fl
theorem item9 {prog : Program} {w : World} {A : Around} {E : Value → Shared → Prop} {s : Shared} {h₀ : Heap} {L : Addr} {news : List (Addr × Obj)} {value slice : PySem.Expr} {l : Addr} {vs : List Value} {cap j : Nat} {k : Int} {u : Tok} {v : Value} {Q : Value → Shared → Prop}
    (N : News h₀ L s.heap news) (hm : (l, W.listOf vs.toArray cap) ∈ news) (hx : vs[j]? = some v) (hk : k = (j : Int)) (hi : j ≤ 70) (h : Q v s)
    (hs : subscripted slice false (.ref l) (.int k u) = operate [.ref l, .int k u] (getItem (.ref l) (.int k u)) := by with_unfolding_all rfl) :
    wpAny (model prog w) A (subscriptTail value slice (.ref l) (.int k u)) Q E s := by
  subst hk
  exact item_cl N hm hx hi h hs
theorem rows_LawQ2_0 : True := by
  k_with "subscriptTail Name BinOp ref int" => ((k_here; (with_reducible show wpAny _ _ (subscriptTail _ _ (Value.ref _) (Value.int _ _)) _ _ _); (rename News _ _ _ _ => lN'); (with_unfolding_all refine' item9 lN' ?k29z ?k39z ?k59z ?k49z ?_ ?k69z; (case k29z => exact List.mem_cons_self); (case k39z => assumption); (case k59z => omega); (case k49z => omega); (case k69z => with_unfolding_all rfl); k_whole)))
  k_with "k_steps" => (repeat' (first | (k_unfold; (try dsimp only)) | (k_end; wrow_close) | ((with_reducible show wpAny _ _ (subscriptTail _ _ _ _) _ _ _); walk1) | ((try dsimp only); walk1) | walk1 | (leave1; walk_say "STEP leave1"; try dsimp only) | fail "no step"))
  trivial
section
variable {w : World} {mean : ExcName → Option Value} {mg mb : Str → Option Value} {dp un : Nat} {gd : Option (List Code)} {a : Addr} {ccd : Value} {outer : List Env} {A₀ : Around} {base h₀ hV : Heap} {L : Addr} {s : Shared} {Q : Flow → Shared → Prop} {E : Value → Shared → Prop} {cF cO c1 cC : Addr}
  (V : LooseAre looseV mg hV) (hB : Below A₀ base [] h₀) (KX : (hd.heap_39 w.params).In h₀) (T : Top hd.view_39 (looseW hd.view_39 looseN) mean mg mb h₀)
  (hdp : dp + 9 < recursionLimit) (hun : un + 100 < cLine)
include V hB KX T hdp hun
theorem law_q2 {CL DP D ad : Addr} {c f e1 e2 port : Int} {n th fo i j cap : Nat} {t u1 u2 u3 tt tp ts tr : Tok} {vs : List Value} {R X : Str} {u : Str → Option Value} {news : List (Addr × Obj)} (hi2 : i ≤ 66) (hj : (j : Int) = max (i : Int) 1 - 1) (hx : vs[j]? = some (.ref ad))
    (F : Fr h₀ L s.heap (fmu ((S "reply", .str R tr) :: (S "shown", .str X ts) :: (S "cut", .int (i : Int) t) :: fL c f e1 e2 port n th fo CL DP D tp tt u1 u2 u3) u)) (N : News h₀ L s.heap ((CL, W.listOf vs.toArray cap) :: news))
    (hret : ∀ (h' : Heap) (tk' : Nat), Fr h₀ L h' (fmu ((S "peer", .ref ad) :: (S "reply", .str R tr) :: (S "shown", .str X ts) :: (S "cut", .int (i : Int) t) :: fL c f e1 e2 port n th fo CL DP D tp tt u1 u2 u3) u) → News h₀ L h' ((CL, W.listOf vs.toArray cap) :: news) → Q .next { s with heap := h', toks := tk' }) :
    wpAny (model Challenge.rw_pg0104_01.row.prog w) (ktrTop dp un gd (S "law") lawS L a ccd (lawCl cF cO c1 cC) []) (execs ((loopB.drop 2).take 1) (envX (S "law") lawS L a ccd (lawCl cF cO c1 cC))) Q E s := by
  revert KX; k_fill; intro KX
  dsimp only [loopB, bodyOf, lawRec, dOf, List.take, List.drop]
  dsimp only [fL] at F
  k_steps
  exact hret _ _ (by assumption) (by assumption)
end
end Mine
end
section
open PySem PySem.W PySem.Spec PySem.Calls PyProof.Rows
namespace Mine
theorem rows_LawQ3 : True := by
  k_with_none
  w_top off
  k_with "storeName" => ((k_here; k_dflt (refine' storeL9 ?F9z ?N9z ?_ ?a9z ?b9z; (case F9z => k_asm); (case N9z => k_asm); (case a9z => rfl); (case b9z => rfl); k_whole; intro h' m' F' N'; (try k_sweep))))
  k_with "ktr_room" => (first | exact rmK (k := 0) (by assumption) (by decide) | exact rmK (k := 1) (by assumption) (by decide) | exact rmK (k := 2) (by assumption) (by decide) | exact rmK (k := 3) (by assumption) (by decide) | exact rmK (k := 4) (by assumption) (by decide) | exact rmK (k := 5) (by assumption) (by decide) | exact rmK (k := 6) (by assumption) (by decide) | exact rmK (k := 7) (by assumption) (by decide) | exact rmK (k := 8) (by assumption) (by decide) | exact rmK (k := 9) (by assumption) (by decide))
  k_with "ktr_units" => (first | exact rmK (k := 0) (by assumption) (by decide) | exact rmK (k := 1) (by assumption) (by decide) | exact rmK (k := 2) (by assumption) (by decide) | exact rmK (k := 3) (by assumption) (by decide) | exact rmK (k := 4) (by assumption) (by decide) | exact rmK (k := 5) (by assumption) (by decide) | exact rmK (k := 6) (by assumption) (by decide) | exact rmK (k := 7) (by assumption) (by decide) | exact rmK (k := 8) (by assumption) (by decide) | exact rmK (k := 9) (by assumption) (by decide) | exact rmK (k := 10) (by assumption) (by decide) | exact rmK (k := 12) (by assumption) (by decide) | exact rmK (k := 13) (by assumption) (by decide) | exact rmK (k := 14) (by assumption) (by decide) | exact rmK (k := 15) (by assumption) (by decide) | exact rmK (k := 16) (by assumption) (by decide) | exact rmK (k := 17) (by assumption) (by decide) | exact rmK (k := 18) (by assumption) (by decide) | exact rmK (k := 20) (by assumption) (by decide) | exact rmK (k := 21) (by assumption) (by decide) | exact rmK (k := 22) (by assumption) (by decide) | exact rmK (k := 23) (by assumption) (by decide) | exact rmK (k := 24) (by assumption) (by decide) | exact rmK (k := 25) (by assumption) (by decide) | exact rmK (k := 26) (by assumption) (by decide) | exact rmK (k := 30) (by assumption) (by decide) | exact rmK (k := 32) (by assumption) (by decide) | exact rmK (k := 33) (by assumption) (by decide) | exact rmK (k := 34) (by assumption) (by decide) | exact rmK (k := 36) (by assumption) (by decide) | exact rmK (k := 64) (by assumption) (by decide) | exact rmK (k := 65) (by assumption) (by decide) | exact rmK (k := 66) (by assumption) (by decide) | exact rmK (k := 68) (by assumption) (by decide))
  trivial
open Fl
theorem rows_LawQ3_0 : True := by
  k_with "k_steps" => (repeat' (first | (k_unfold; (try dsimp only)) | (k_end; wrow_close) | ((with_reducible show wpAny _ _ (subscriptTail _ _ _ _) _ _ _); walk1) | ((try dsimp only); walk1) | walk1 | (leave1; walk_say "STEP leave1"; try dsimp only) | fail "no step"))
  trivial
section
variable {w : World} {mean : ExcName → Option Value} {mg mb : Str → Option Value} {dp un : Nat} {gd : Option (List Code)} {a : Addr} {ccd : Value} {outer : List Env} {A₀ : Around} {base h₀ hV : Heap} {L : Addr} {s : Shared} {Q : Flow → Shared → Prop} {E : Value → Shared → Prop} {cF cO c1 cC : Addr}
  (V : LooseAre looseV mg hV) (hB : Below A₀ base [] h₀) (KX : (hd.heap_39 w.params).In h₀) (T : Top hd.view_39 (looseW hd.view_39 looseN) mean mg mb h₀)
  (hdp : dp + 9 < recursionLimit) (hun : un + 100 < cLine)
include V hB KX T hdp hun
theorem law_q3 {ad : Addr} {R : Str} {tr : Tok} {l : List (Str × Value)} {u : Str → Option Value} {news : List (Addr × Obj)} {K : Obj → Prop}
    (F : Fr h₀ L s.heap (fmu ((S "peer", .ref ad) :: (S "reply", .str R tr) :: l) u)) (N : News h₀ L s.heap news)
    (hcall : ∀ {s' : Shared} {Q' E' : Value → Shared → Prop}, Fr h₀ L s'.heap (fmu ((S "peer", .ref ad) :: (S "reply", .str R tr) :: l) u) → News h₀ L s'.heap news →
      (∀ (l' : Addr) (ob : Obj) (h' : Heap) (tk' : Nat) (news' : List (Addr × Obj)), K ob → Fr h₀ L h' (fmu ((S "peer", .ref ad) :: (S "reply", .str R tr) :: l) u) → News h₀ L h' ((l', ob) :: news') → (∀ p ∈ news, p ∈ news') → Q' (.ref l') { s' with heap := h', toks := tk' }) →
      wpC (model Challenge.rw_pg0104_01.row.prog w) (ktrTop dp un gd (S "law") lawS L a ccd (lawCl cF cO c1 cC) []) (call (.ref 128) [.str R tr, .ref ad]) Q' E' s')
    (hret : ∀ (l' : Addr) (ob : Obj) (h' : Heap) (tk' : Nat) (news' : List (Addr × Obj)), K ob → Fr h₀ L h' (fmu ((S "heard", .ref l') :: (S "peer", .ref ad) :: (S "reply", .str R tr) :: l) u) → News h₀ L h' ((l', ob) :: news') → (∀ p ∈ news, p ∈ news') → Q .next { s with heap := h', toks := tk' }) :
    wpC (model Challenge.rw_pg0104_01.row.prog w) (ktrTop dp un gd (S "law") lawS L a ccd (lawCl cF cO c1 cC) []) (execs ((loopB.drop 3).take 1) (envX (S "law") lawS L a ccd (lawCl cF cO c1 cC))) Q E s := by
  revert KX; k_fill; intro KX
  dsimp only [loopB, bodyOf, lawRec, dOf, List.take, List.drop]
  refine wpC_execs_cons (wpC_Assign_Name (wpC_Call_Name ?_))
  k_steps
  k_dflt (refine' callWith_KC ?k1 ?k2 ?_; (case k1 => k_asm); (case k2 => k_is); k_whole)
  k_steps
  refine hcall (by assumption) (by assumption) ?_
  intro l' ob h' tk' news' hK F' N' hs'
  (try dsimp only)
  k_steps
  refine wpC_of (wpAny_execs_nil ?_)
  exact hret _ _ _ _ _ hK (by assumption) (by assumption) hs'
end
end Mine
end
section
open PySem PySem.W PySem.Spec PySem.Calls PyProof.Rows
namespace Mine
theorem rows_LawQ4 : True := by
  k_with_none
  w_top off
  k_with "storeName" => ((k_here; k_dflt (refine' storeL9 ?F9z ?N9z ?_ ?a9z ?b9z; (case F9z => k_asm); (case N9z => k_asm); (case a9z => rfl); (case b9z => rfl); k_whole; intro h' m' F' N'; (try k_sweep))))
  k_with "ktr_room" => (first | exact rmK (k := 0) (by assumption) (by decide) | exact rmK (k := 1) (by assumption) (by decide) | exact rmK (k := 2) (by assumption) (by decide) | exact rmK (k := 3) (by assumption) (by decide) | exact rmK (k := 4) (by assumption) (by decide) | exact rmK (k := 5) (by assumption) (by decide) | exact rmK (k := 6) (by assumption) (by decide) | exact rmK (k := 7) (by assumption) (by decide) | exact rmK (k := 8) (by assumption) (by decide) | exact rmK (k := 9) (by assumption) (by decide))
  k_with "ktr_units" => (first | exact rmK (k := 0) (by assumption) (by decide) | exact rmK (k := 1) (by assumption) (by decide) | exact rmK (k := 2) (by assumption) (by decide) | exact rmK (k := 3) (by assumption) (by decide) | exact rmK (k := 4) (by assumption) (by decide) | exact rmK (k := 5) (by assumption) (by decide) | exact rmK (k := 6) (by assumption) (by decide) | exact rmK (k := 7) (by assumption) (by decide) | exact rmK (k := 8) (by assumption) (by decide) | exact rmK (k := 9) (by assumption) (by decide) | exact rmK (k := 10) (by assumption) (by decide) | exact rmK (k := 12) (by assumption) (by decide) | exact rmK (k := 13) (by assumption) (by decide) | exact rmK (k := 14) (by assumption) (by decide) | exact rmK (k := 15) (by assumption) (by decide) | exact rmK (k := 16) (by assumption) (by decide) | exact rmK (k := 17) (by assumption) (by decide) | exact rmK (k := 18) (by assumption) (by decide) | exact rmK (k := 20) (by assumption) (by decide) | exact rmK (k := 21) (by assumption) (by decide) | exact rmK (k := 22) (by assumption) (by decide) | exact rmK (k := 23) (by assumption) (by decide) | exact rmK (k := 24) (by assumption) (by decide) | exact rmK (k := 25) (by assumption) (by decide) | exact rmK (k := 26) (by assumption) (by decide) | exact rmK (k := 30) (by assumption) (by decide) | exact rmK (k := 32) (by assumption) (by decide) | exact rmK (k := 33) (by assumption) (by decide) | exact rmK (k := 34) (by assumption) (by decide) | exact rmK (k := 36) (by assumption) (by decide) | exact rmK (k := 64) (by assumption) (by decide) | exact rmK (k := 65) (by assumption) (by decide) | exact rmK (k := 66) (by assumption) (by decide) | exact rmK (k := 68) (by assumption) (by decide))
  trivial
open Fl
section
variable {prog : Program} {w : World} {A : Around} {E : Value → Shared → Prop} {s : Shared} {h₀ : Heap} {L D D' : Addr} {news : List (Addr × Obj)} {Q : Value → Shared → Prop}
theorem two9 {p r : Str} {x y u v : Tok} : ∀ j (h1 : j < (#[Value.str p x, Value.str r y]).size) (h2 : j < (#[Value.str p u, Value.str r v]).size), PySem.SeqAt.EqAt A.in1 s (#[Value.str p x, Value.str r y])[j] (#[Value.str p u, Value.str r v])[j] true
  | 0, _, _ => by have := PySem.SeqAt.EqAt.str_str (A := A.in1) (s := s) p x p u; rw [beq_self_eq_true] at this; exact this
  | 1, _, _ => by have := PySem.SeqAt.EqAt.str_str (A := A.in1) (s := s) r y r v; rw [beq_self_eq_true] at this; exact this
  | j + 2, h, _ => absurd h (by simp)
theorem one9 {p : Str} {x u : Tok} : ∀ j (h1 : j < (#[Value.str p x]).size) (h2 : j < (#[Value.str p u]).size), PySem.SeqAt.EqAt A.in1 s (#[Value.str p x])[j] (#[Value.str p u])[j] true
  | 0, _, _ => by have := PySem.SeqAt.EqAt.str_str (A := A.in1) (s := s) p x p u; rw [beq_self_eq_true] at this; exact this
  | j + 1, h, _ => absurd h (by simp)
theorem neStr2 {p r : Str} {x y u v : Tok} {n k : Nat} (N : News h₀ L s.heap news) (hm : (D, W.listOf #[.str p x, .str r y] n) ∈ news) (hm' : (D', W.listOf #[.str p u, .str r v] k) ∈ news) (hu : A.units < cLine) (h : Q (.bool false) s) :
    wpAny (model prog w) A (compareOp .NotEq (.ref D) (.ref D')) Q E s :=
  PySem.SeqAt.RcNeAt.lists (e := fun _ => true) ⟨_, (N _ hm).1, rfl, n, rfl⟩ ⟨_, (N _ hm').1, rfl, k, rfl⟩ rfl hu two9 prog w E Q h
theorem neStr1 {p : Str} {x u : Tok} {n k : Nat} (N : News h₀ L s.heap news) (hm : (D, W.listOf #[.str p x] n) ∈ news) (hm' : (D', W.listOf #[.str p u] k) ∈ news) (hu : A.units < cLine) (h : Q (.bool false) s) :
    wpAny (model prog w) A (compareOp .NotEq (.ref D) (.ref D')) Q E s :=
  PySem.SeqAt.RcNeAt.lists (e := fun _ => true) ⟨_, (N _ hm).1, rfl, n, rfl⟩ ⟨_, (N _ hm').1, rfl, k, rfl⟩ rfl hu one9 prog w E Q h
theorem mix9 {f : UInt64} {n : Int} {x y v : Tok} : ∀ j (h1 : j < (#[Value.float f x, Value.int n y]).size) (h2 : j < (#[Value.float f x, Value.int n v]).size), PySem.SeqAt.EqAt A.in1 s (#[Value.float f x, Value.int n y])[j] (#[Value.float f x, Value.int n v])[j] true
  | 0, _, _ => PySem.SeqAt.EqAt.same _
  | 1, _, _ => by have := PySem.SeqAt.EqAt.int_int (A := A.in1) (s := s) n y n v; rw [beq_self_eq_true] at this; exact this
  | j + 2, h, _ => absurd h (by simp)
theorem neTup9 {f : UInt64} {n : Int} {x y v : Tok} {o o' : Obj} (N : News h₀ L s.heap news) (hm : (D, o) ∈ news) (hm' : (D', o') ∈ news) (c1 : o.cls = .type "tuple") (d1 : o.data = .seq #[.float f x, .int n y]) (c2 : o'.cls = .type "tuple") (d2 : o'.data = .seq #[.float f x, .int n v]) (hu : A.units < cLine) (h : Q (.bool false) s) :
    wpAny (model prog w) A (compareOp .NotEq (.ref D) (.ref D')) Q E s :=
  PySem.SeqAt.RcNeAt.tuples (e := fun _ => true) ⟨_, (N _ hm).1, c1, 0, d1⟩ ⟨_, (N _ hm').1, c2, 0, d2⟩ hu mix9 prog w E Q h
end
theorem ite_k4T {b : Bool} {P Q : Prop} (hb : b = true) (h : P) : if b = true then P else Q := by rw [if_pos hb]; exact h
theorem ite_k4F {b : Bool} {P Q : Prop} (hb : b = false) (h : Q) : if b = true then P else Q := by rw [if_neg (by rw [hb]; decide)]; exact h
theorem rows_LawQ4_0 : True := by
  k_with "ite" => (first | (with_reducible refine' ite_k4T ?h9z ?_; (case h9z => first | with_reducible assumption | (simp only [Bool.not_eq_true', decide_eq_false_iff_not, bne_iff_ne, beq_iff_eq, decide_eq_true_eq, ne_eq, Bool.not_eq_false', bne_eq_false_iff_eq, beq_eq_false_iff_ne]; omega))) | (with_reducible refine' ite_k4F ?h9z ?_; (case h9z => first | with_reducible assumption | (simp only [Bool.not_eq_true', decide_eq_false_iff_not, bne_iff_ne, beq_iff_eq, decide_eq_true_eq, ne_eq, Bool.not_eq_false', bne_eq_false_iff_eq, beq_eq_false_iff_ne]; omega))))
  k_with "compareOp NotEq ref ref" => ((k_here; (with_reducible show wpAny _ _ (compareOp CmpOp.NotEq (Value.ref _) (Value.ref _)) _ _ _); (try dsimp only); k_dflt (refine' neStr2 ?N9z ?m9z ?m'9z ?u9z ?_; (case N9z => k_asm); (case m9z => k_mem); (case m'9z => k_mem); (case u9z => ktr_units); k_whole); (try dsimp only)))
  k_with "compareOp NotEq ref ref" => ((k_here; (with_reducible show wpAny _ _ (compareOp CmpOp.NotEq (Value.ref _) (Value.ref _)) _ _ _); (try dsimp only); k_dflt (refine' neStr1 ?N9z ?m9z ?m'9z ?u9z ?_; (case N9z => k_asm); (case m9z => k_mem); (case m'9z => k_mem); (case u9z => ktr_units); k_whole); (try dsimp only)))
  k_with "compareOp NotEq ref ref" => ((k_here; (with_reducible show wpAny _ _ (compareOp CmpOp.NotEq (Value.ref _) (Value.ref _)) _ _ _); (try dsimp only); k_dflt (refine' neTup9 ?N9z ?m9z ?m'9z ?c19z ?d19z ?c29z ?d29z ?u9z ?_; (case N9z => k_asm); (case m9z => k_mem); (case m'9z => k_mem); (case c19z => exact rfl); (case d19z => exact rfl); (case c29z => exact rfl); (case d29z => exact rfl); (case u9z => ktr_units); k_whole); (try dsimp only)))
  k_with "binaryOp Mult float int" => (((with_reducible show wpAny _ _ (binaryOp Operator.Mult (Value.float _ _) (Value.int _ _)) _ _ _); (refine mulfi_cl (by omega) (by omega) ?_); (try dsimp only)))
  k_with "call ref" => ((k_here; (with_reducible show wpAny _ _ (call (Value.ref 107) [Value.int _ _, Value.int _ _]) _ _ _); (k_dflt (refine' red_call ?k09z ?k19z ?k29z ?k39z ?k49z ?k59z ?k69z ?k79z ?k89z ?c19z ?c29z ?c39z ?c49z ?_)); (case k09z => assumption); (case k19z => k_asm); (case k29z => k_asm); (case k39z => k_asm); (case k49z => k_asm); (case k59z => k_asm); (case k69z => first | exact rfl | assumption); (case k79z => ktr_room); (case k89z => ktr_units); (case c19z => assumption); (case c29z => assumption); (case c39z => assumption); (case c49z => assumption); intro r9 h9 tk9 F9 N9; (try dsimp only); (try k_fold)))
  k_with "call ref" => ((k_here; (with_reducible show wpAny _ _ (call (Value.ref 114) [Value.float _ _, Value.int _ _]) _ _ _); (k_dflt (refine' near_fiT ?k09z ?k19z ?k29z ?k39z ?k49z ?k59z ?k69z ?k79z ?k89z ?b19z ?b29z ?c19z ?_)); (case k09z => assumption); (case k19z => k_asm); (case k29z => k_asm); (case k39z => k_asm); (case k49z => k_asm); (case k59z => k_asm); (case k69z => first | exact rfl | assumption); (case k79z => ktr_room); (case k89z => ktr_units); (case b19z => assumption); (case b29z => assumption); (case c19z => assumption); intro h9 tk9 F9 N9; (try dsimp only); (try k_fold)))
  k_with "k_steps" => (repeat' (first | (k_unfold; (try dsimp only)) | (k_end; wrow_close) | ((with_reducible show wpAny _ _ (subscriptTail _ _ _ _) _ _ _); walk1) | ((try dsimp only); walk1) | walk1 | (leave1; walk_say "STEP leave1"; try dsimp only) | fail "no step"))
  trivial
section
variable {w : World} {mean : ExcName → Option Value} {mg mb : Str → Option Value} {dp un : Nat} {gd : Option (List Code)} {a : Addr} {ccd : Value} {outer : List Env} {A₀ : Around} {base h₀ hV : Heap} {L : Addr} {s : Shared} {Q : Flow → Shared → Prop} {E : Value → Shared → Prop} {cF cO c1 cC : Addr}
  (V : LooseAre looseV mg hV) (hB : Below A₀ base [] h₀) (KX : (hd.heap_39 w.params).In h₀) (T : Top hd.view_39 (looseW hd.view_39 looseN) mean mg mb h₀)
  (hdp : dp + 9 < recursionLimit) (hun : un + 100 < cLine)
include V hB KX T hdp hun
theorem law_q4a {CL DP D ad l' : Addr} {c f e1 e2 port : Int} {n th fo i : Nat} {t u1 u2 u3 tt tp ts tr v1 v2 : Tok} {R X : Str} {u : Str → Option Value} {news : List (Addr × Obj)} (hi2 : i ≤ 66) (hfo : fo ≤ 66) (hne : (i : Int) ≠ (fo : Int) + 1) (hR : R.length ≤ 200)
    (F : Fr h₀ L s.heap (fmu ((S "heard", .ref l') :: (S "peer", .ref ad) :: (S "reply", .str R tr) :: (S "shown", .str X ts) :: (S "cut", .int (i : Int) t) :: fL c f e1 e2 port n th fo CL DP D tp tt u1 u2 u3) u)) (N : News h₀ L s.heap ((l', W.listOf #[.str (Str.ofString "proto") v1, .str R v2] 0) :: news))
    (hret : ∀ (h' : Heap) (tk' : Nat), Fr h₀ L h' (fmu ((S "heard", .ref l') :: (S "peer", .ref ad) :: (S "reply", .str R tr) :: (S "shown", .str X ts) :: (S "cut", .int (i : Int) t) :: fL c f e1 e2 port n th fo CL DP D tp tt u1 u2 u3) u) → News h₀ L h' news → Q .next { s with heap := h', toks := tk' }) :
    wpAny (model Challenge.rw_pg0104_01.row.prog w) (ktrTop dp un gd (S "law") lawS L a ccd (lawCl cF cO c1 cC) []) (execs ((loopB.drop 4).take 1) (envX (S "law") lawS L a ccd (lawCl cF cO c1 cC))) Q E s := by
  revert KX; k_fill; intro KX
  dsimp only [loopB, bodyOf, lawRec, dOf, List.take, List.drop]
  dsimp only [fL] at F
  k_steps
  rename News _ _ _ _ => N9
  exact hret _ _ (by assumption) (newsSub (List.Sublist.cons _ (List.Sublist.cons _ (List.Sublist.refl _))) N9)
theorem law_q4b {CL DP D ad l' : Addr} {c f e1 e2 port : Int} {n th fo i : Nat} {t u1 u2 u3 tt tp ts tr v1 : Tok} {R X : Str} {u : Str → Option Value} {news : List (Addr × Obj)} (hi2 : i ≤ 67) (hfo : fo ≤ 66) (hth : th ≤ 66) (hne : (i : Int) = (fo : Int) + 1) (hft : (fo : Int) = (th : Int) + 1) (hR : R.length ≤ 200)
    (F : Fr h₀ L s.heap (fmu ((S "heard", .ref l') :: (S "peer", .ref ad) :: (S "reply", .str R tr) :: (S "shown", .str X ts) :: (S "cut", .int (i : Int) t) :: fL c f e1 e2 port n th fo CL DP D tp tt u1 u2 u3) u)) (N : News h₀ L s.heap ((l', W.listOf #[.str (Str.ofString "value") v1] 0) :: news))
    (hret : ∀ (h' : Heap) (tk' : Nat), Fr h₀ L h' (fmu ((S "heard", .ref l') :: (S "peer", .ref ad) :: (S "reply", .str R tr) :: (S "shown", .str X ts) :: (S "cut", .int (i : Int) t) :: fL c f e1 e2 port n th fo CL DP D tp tt u1 u2 u3) u) → News h₀ L h' news → Q .next { s with heap := h', toks := tk' }) :
    wpAny (model Challenge.rw_pg0104_01.row.prog w) (ktrTop dp un gd (S "law") lawS L a ccd (lawCl cF cO c1 cC) []) (execs ((loopB.drop 4).take 1) (envX (S "law") lawS L a ccd (lawCl cF cO c1 cC))) Q E s := by
  revert KX; k_fill; intro KX
  dsimp only [loopB, bodyOf, lawRec, dOf, List.take, List.drop]
  dsimp only [fL] at F
  k_steps
  rename News _ _ _ _ => N9
  exact hret _ _ (by assumption) (newsSub (List.Sublist.cons _ (List.Sublist.cons _ (List.Sublist.refl _))) N9)
theorem law_q4c {CL DP D ad l' : Addr} {c f e1 e2 port : Int} {n th fo i : Nat} {t u1 u2 u3 tt tp ts tr v1 t0 t3 a1 a2 a3 : Tok} {R X : Str} {u : Str → Option Value} {news : List (Addr × Obj)} {x y z : UInt64} {oF oC : Obj} (hi2 : i ≤ 67) (hfo : fo ≤ 66) (hth : th ≤ 66) (hne : (i : Int) = (fo : Int) + 1) (hft : (fo : Int) ≠ (th : Int) + 1) (hc1 : 2 ≤ c) (hc2 : c ≤ 10) (hf1 : 0 ≤ f) (hf2 : f < c) (hnear : nearF (Float64.mul x (Float64.ofInt c)) (Float64.ofInt (c - min (max (6 * min f (c - f) - c) 0) c)) = true) (hr1 : -100 ≤ c - min (max (6 * min f (c - f) - c) 0) c) (hr2 : c - min (max (6 * min f (c - f) - c) 0) c ≤ 100)
    (F : Fr h₀ L s.heap (fmu ((S "heard", .ref l') :: (S "peer", .ref ad) :: (S "reply", .str R tr) :: (S "shown", .str X ts) :: (S "cut", .int (i : Int) t) :: fL c f e1 e2 port n th fo CL DP D tp tt u1 u2 u3) u)) (N : News h₀ L s.heap ((l', { cls := .type "tuple", data := .seq #[.float x a1, .int port v1] }) :: (ad, tup3 x a1 y a2 z a3) :: (cF, oF) :: (cC, oC) :: news)) (dF : oF.data = .cell (some (.int f t0))) (dC : oC.data = .cell (some (.int c t3)))
    (hret : ∀ (h' : Heap) (tk' : Nat), Fr h₀ L h' (fmu ((S "heard", .ref l') :: (S "peer", .ref ad) :: (S "reply", .str R tr) :: (S "shown", .str X ts) :: (S "cut", .int (i : Int) t) :: fL c f e1 e2 port n th fo CL DP D tp tt u1 u2 u3) u) → News h₀ L h' ((ad, tup3 x a1 y a2 z a3) :: (cF, oF) :: (cC, oC) :: news) → Q .next { s with heap := h', toks := tk' }) :
    wpAny (model Challenge.rw_pg0104_01.row.prog w) (ktrTop dp un gd (S "law") lawS L a ccd (lawCl cF cO c1 cC) []) (execs ((loopB.drop 4).take 1) (envX (S "law") lawS L a ccd (lawCl cF cO c1 cC))) Q E s := by
  revert KX; k_fill; intro KX
  dsimp only [loopB, bodyOf, lawRec, dOf, List.take, List.drop]
  dsimp only [fL] at F
  k_steps
  rename News _ _ _ _ => N9
  refine hret _ _ (by assumption) (newsSub ?_ N9)
  (repeat (first | exact List.Sublist.refl _ | (refine List.Sublist.cons _ ?_)))
end
end Mine
end
section
open PySem PySem.W PySem.Spec PySem.Calls PyProof.Rows
namespace Mine
open Fl
theorem loopB_split {prog : Program} {w : World} {A : Around} {E : Value → Shared → Prop} {s : Shared} {env : Env} {Q : Flow → Shared → Prop}
    (h : wpC (model prog w) A (execs (loopB.take 2) env) (fun f s' => match f with
      | .next => wpC (model prog w) A (execs ((loopB.drop 2).take 1) env) (fun f s' => match f with
        | .next => wpC (model prog w) A (execs ((loopB.drop 3).take 1) env) (fun f s' => match f with
          | .next => wpC (model prog w) A (execs ((loopB.drop 4).take 1) env) Q E s'
          | f => Q f s') E s'
        | f => Q f s') E s'
      | f => Q f s') E s) : wpC (model prog w) A (execs loopB env) Q E s := by
  refine wpC_execs_split 2 (wpC_mono h (fun f s₁ h₁ => ?_) fun _ _ x => x)
  cases f with
  | next =>
    refine wpC_execs_split 1 (wpC_mono h₁ (fun f s₂ h₂ => ?_) fun _ _ x => x)
    cases f with
    | next =>
      refine wpC_execs_split 1 (wpC_mono h₂ (fun f s₃ h₃ => ?_) fun _ _ x => x)
      cases f with
      | next => exact h₃
      | _ => exact h₃
    | _ => exact h₂
  | _ => exact h₁
theorem noBad {b : Bool} {n : Nat} (h1 : b = false) (h2 : n = 5) : ¬ (b = true ∨ n ≠ 5) := by subst h1; subst h2; simp
theorem noGood {b : Bool} {n : Nat} (h1 : b = false) (h2 : n = 5) : ¬ (b = true ∨ (b = false ∧ n ≠ 5)) := by subst h1; subst h2; simp
theorem red_bd {c f : Int} (h1 : 2 ≤ c) (h2 : c ≤ 10) : -100 ≤ c - min (max (6 * min f (c - f) - c) 0) c ∧ c - min (max (6 * min f (c - f) - c) 0) c ≤ 100 := by
  omega
section
variable {w : World} {mean : ExcName → Option Value} {mg mb : Str → Option Value} {dp un : Nat} {gd : Option (List Code)} {a : Addr} {ccd : Value} {outer : List Env} {A₀ : Around} {base h₀ hV : Heap} {L : Addr} {s : Shared} {Q : Flow → Shared → Prop} {E : Value → Shared → Prop} {cF cO c1 cC : Addr}
  (V : LooseAre looseV mg hV) (hB : Below A₀ base [] h₀) (KX : (hd.heap_39 w.params).In h₀) (T : Top hd.view_39 (looseW hd.view_39 looseN) mean mg mb h₀) (XB : (hd.heap_39 w.params).In base) (TB : Top hd.view_39 (looseW hd.view_39 looseN) mean mg mb base)
  (hdp : dp + 9 < recursionLimit) (hun : un + 100 < cLine)
include V hB KX T XB TB hdp hun
theorem law_turn {CL DP D ad : Addr} {c f e1 e2 port : Int} {n th fo i j cap : Nat} {t u1 u2 u3 tt tp t0 t3 a1 a2 a3 : Tok} {vs : List Value} {u : Str → Option Value} {news : List (Addr × Obj)} {oF oC : Obj}
    (P : Fl.Par c f e1 e2) (H : Hits c f e1 e2 th fo) (hn : n ≤ 66) (hn3 : n = fo + 3) (hi : i ≤ n) (hj : (j : Int) = max (i : Int) 1 - 1) (hx : vs[j]? = some (.ref ad))
    (hport : port = ((((rangeKs 0 ((n : Int) - 0).toNat).map (fun k' => dig c f e1 e2 k'.toNat)).drop (th + 1)).take (fo - (th + 1))).foldl (fun a b => 10 * a + b) 0)
    (F : Fr h₀ L s.heap (fmu ((S "cut", .int (i : Int) t) :: fL c f e1 e2 port n th fo CL DP D tp tt u1 u2 u3) u)) (N : News h₀ L s.heap news) (mL : (CL, W.listOf vs.toArray cap) ∈ news) (mA : (ad, tupC (colAt c f e1 e2 j) a1 a2 a3) ∈ news) (mF : (cF, oF) ∈ news) (mC : (cC, oC) ∈ news) (dF : oF.data = .cell (some (.int f t0))) (dC : oC.data = .cell (some (.int c t3)))
    (hret : ∀ (h' : Heap) (tk' : Nat) (vh : Value) (tr ts : Tok), Fr h₀ L h' (fmu ((S "heard", vh) :: (S "peer", .ref ad) :: (S "reply", .str (repS (cutI c f e1 e2 i)) tr) :: (S "shown", .str (textOf c f e1 e2 i) ts) :: (S "cut", .int (i : Int) t) :: fL c f e1 e2 port n th fo CL DP D tp tt u1 u2 u3) u) → News h₀ L h' news → Q .next { s with heap := h', toks := tk' }) :
    wpC (model Challenge.rw_pg0104_01.row.prog w) (ktrTop dp un gd (S "law") lawS L a ccd (lawCl cF cO c1 cC) []) (execs loopB (envX (S "law") lawS L a ccd (lawCl cF cO c1 cC))) Q E s := by
  have hle := H.le
  have hlt := H.lt
  have hun30 := rmK (k := 30) hun (by decide)
  have hi6 : i ≤ 66 := Nat.le_trans hi hn
  have hf6 : fo ≤ 66 := Nat.le_trans hle (by decide)
  have ht6 : th ≤ 66 := Nat.le_trans (Nat.le_of_lt hlt) hf6
  have hfn : fo ≤ n := by rw [hn3]; exact Nat.le_add_right _ _
  refine loopB_split (wpC_of (law_q1 V hB KX T hdp hun P hn hi hi6 F N fun h₁ tk₁ ts tr F₁ N₁ => ?_))
  have N₁' : News h₀ L h₁ ((CL, W.listOf vs.toArray cap) :: news) := fun p hp => by
    rcases List.mem_cons.mp hp with rfl | hp
    · exact N₁ _ mL
    · exact N₁ p hp
  refine wpC_of (law_q2 V hB KX T hdp hun hi6 hj hx F₁ N₁' fun h₂ tk₂ F₂ N₂ => ?_)
  have N₂' : News h₀ L h₂ ((ad, tupC (colAt c f e1 e2 j) a1 a2 a3) :: news) := fun p hp => by
    rcases List.mem_cons.mp hp with rfl | hp
    · exact N₂ _ (List.mem_cons_of_mem _ mA)
    · exact N₂ p (List.mem_cons_of_mem _ hp)
  have hR : (repS (cutI c f e1 e2 i)).length ≤ 200 := by rw [repS_len, cutI_len]; omega
  have hI : (⟨(cutI c f e1 e2 i).toArray⟩ : Str).length ≤ 200 := by
    show (cutI c f e1 e2 i).toArray.size ≤ 200
    rw [List.size_toArray, cutI_len]
    omega
  by_cases hc : i = fo + 1
  · subst hc
    have RF := rep_good P H
    have sp := split_good P H
    have same : ((⟨#[48 + f.toNat]⟩ : Str) != ⟨#[48 + f.toNat]⟩) = false := by simp
    have ej : j = fo := by omega
    subst ej
    by_cases hft : j = th + 1
    · have hv := val_good P H hft
      refine law_q3 V hB KX T hdp hun (K := fun ob => ∃ u1, ob = W.listOf #[.str (Str.ofString "value") u1] 0) F₂ N₂' (fun {s' Q' E'} F' N' h' => ?_) fun l' ob h₃ tk₃ news' hK F₃ N₃ sub => ?_
      · exact heard_all V hB F' KX T XB TB rfl hdp hun30 RF hR N' hI (fun h => absurd h (noBad same sp.1)) (fun _ _ => .inl ⟨hv, fun l' u1 h'' tk'' news' F'' N'' sub => h' l' _ h'' tk'' news' ⟨u1, rfl⟩ F'' N'' sub⟩)
      · obtain ⟨v1, rfl⟩ := hK
        refine wpC_of (law_q4b V hB KX T hdp hun (Nat.le_succ_of_le hi6) hf6 ht6 rfl (congrArg Int.ofNat hft) hR F₃ N₃ fun h₄ tk₄ F₄ N₄ => ?_)
        exact hret _ _ _ _ _ F₄ fun p hp => N₄ p (sub p (List.mem_cons_of_mem _ hp))
    · have hint := int_good (n := n) P H hfn hft
      rw [← hport] at hint
      refine law_q3 V hB KX T hdp hun (K := fun ob => ∃ u2, ob = { cls := .type "tuple", data := .seq #[.float (colAt c f e1 e2 j).1 a1, .int port u2] }) F₂ N₂' (fun {s' Q' E'} F' N' h' => ?_) fun l' ob h₃ tk₃ news' hK F₃ N₃ sub => ?_
      · exact heard_all V hB F' KX T XB TB rfl hdp hun30 RF hR N' hI (fun h => absurd h (noBad same sp.1)) (fun _ _ => .inr ⟨_, hint, fun l' u2 h'' tk'' news' F'' N'' sub => h' l' _ h'' tk'' news' ⟨u2, rfl⟩ F'' N'' sub⟩)
      · obtain ⟨v1, rfl⟩ := hK
        have N₃' : News h₀ L h₃ ((l', { cls := .type "tuple", data := .seq #[.float (colAt c f e1 e2 j).1 a1, .int port v1] }) :: (ad, tup3 (colAt c f e1 e2 j).1 a1 (colAt c f e1 e2 j).2.1 a2 (colAt c f e1 e2 j).2.2 a3) :: (cF, oF) :: (cC, oC) :: news) := fun p hp => by
          rcases List.mem_cons.mp hp with rfl | hp
          · exact N₃ _ List.mem_cons_self
          refine N₃ p (List.mem_cons_of_mem _ (sub p ?_))
          rcases List.mem_cons.mp hp with rfl | hp
          · exact List.mem_cons_self
          refine List.mem_cons_of_mem _ ?_
          rcases List.mem_cons.mp hp with rfl | hp
          · exact mF
          rcases List.mem_cons.mp hp with rfl | hp
          · exact mC
          exact hp
        have hred := red_f P (t := j) hf6 H.hfo
        refine wpC_of (law_q4c V hB KX T hdp hun (Nat.le_succ_of_le hi6) hf6 ht6 rfl (fun e => hft (Int.ofNat.inj e)) P.hc1 P.hc2 P.hf1 P.hf2 hred (red_bd P.hc1 P.hc2).1 (red_bd P.hc1 P.hc2).2 F₃ N₃' dF dC fun h₄ tk₄ F₄ N₄ => ?_)
        exact hret _ _ _ _ _ F₄ fun p hp => N₄ p (List.mem_cons_of_mem _ (List.mem_cons_of_mem _ (List.mem_cons_of_mem _ hp)))
  · obtain ⟨ca, cb, RF, hh⟩ := rep_bad (n := n) P H (i := i) (Nat.le_trans hi6 (by decide)) hc
    refine law_q3 V hB KX T hdp hun (K := fun ob => ∃ u1 u2, ob = W.listOf #[.str (Str.ofString "proto") u1, .str (repS (cutI c f e1 e2 i)) u2] 0) F₂ N₂' (fun {s' Q' E'} F' N' h' => ?_) fun l' ob h₃ tk₃ news' hK F₃ N₃ sub => ?_
    · exact heard_all V hB F' KX T XB TB rfl hdp hun30 RF hR N' hI (fun _ l' u1 u2 h'' tk'' news' F'' N'' sub => h' l' _ h'' tk'' news' ⟨u1, u2, rfl⟩ F'' N'' sub) (fun h1 h2 => absurd hh (noGood h1 h2))
    · obtain ⟨v1, v2, rfl⟩ := hK
      refine wpC_of (law_q4a V hB KX T hdp hun hi6 hf6 (fun e => hc (Int.ofNat.inj e)) hR F₃ N₃ fun h₄ tk₄ F₄ N₄ => ?_)
      exact hret _ _ _ _ _ F₄ fun p hp => N₄ p (sub p (List.mem_cons_of_mem _ hp))
end
end Mine
end
section
open PySem PySem.W PySem.Spec PySem.Calls PyProof.Rows
namespace Mine
theorem rows_LawP9 : True := by
  k_with_none
  w_top off
  k_with "storeName" => ((k_here; k_dflt (refine' storeL9 ?F9z ?N9z ?_ ?a9z ?b9z; (case F9z => k_asm); (case N9z => k_asm); (case a9z => rfl); (case b9z => rfl); k_whole; intro h' m' F' N'; (try k_sweep))))
  k_with "ktr_room" => (first | exact rmK (k := 0) (by assumption) (by decide) | exact rmK (k := 1) (by assumption) (by decide) | exact rmK (k := 2) (by assumption) (by decide) | exact rmK (k := 3) (by assumption) (by decide) | exact rmK (k := 4) (by assumption) (by decide) | exact rmK (k := 5) (by assumption) (by decide) | exact rmK (k := 6) (by assumption) (by decide) | exact rmK (k := 7) (by assumption) (by decide) | exact rmK (k := 8) (by assumption) (by decide) | exact rmK (k := 9) (by assumption) (by decide))
  k_with "ktr_units" => (first | exact rmK (k := 0) (by assumption) (by decide) | exact rmK (k := 1) (by assumption) (by decide) | exact rmK (k := 2) (by assumption) (by decide) | exact rmK (k := 3) (by assumption) (by decide) | exact rmK (k := 4) (by assumption) (by decide) | exact rmK (k := 5) (by assumption) (by decide) | exact rmK (k := 6) (by assumption) (by decide) | exact rmK (k := 7) (by assumption) (by decide) | exact rmK (k := 8) (by assumption) (by decide) | exact rmK (k := 9) (by assumption) (by decide) | exact rmK (k := 10) (by assumption) (by decide) | exact rmK (k := 12) (by assumption) (by decide) | exact rmK (k := 13) (by assumption) (by decide) | exact rmK (k := 14) (by assumption) (by decide) | exact rmK (k := 15) (by assumption) (by decide) | exact rmK (k := 16) (by assumption) (by decide) | exact rmK (k := 17) (by assumption) (by decide) | exact rmK (k := 18) (by assumption) (by decide) | exact rmK (k := 20) (by assumption) (by decide) | exact rmK (k := 21) (by assumption) (by decide) | exact rmK (k := 22) (by assumption) (by decide) | exact rmK (k := 23) (by assumption) (by decide) | exact rmK (k := 24) (by assumption) (by decide) | exact rmK (k := 25) (by assumption) (by decide) | exact rmK (k := 26) (by assumption) (by decide) | exact rmK (k := 30) (by assumption) (by decide) | exact rmK (k := 32) (by assumption) (by decide) | exact rmK (k := 33) (by assumption) (by decide) | exact rmK (k := 34) (by assumption) (by decide) | exact rmK (k := 36) (by assumption) (by decide) | exact rmK (k := 64) (by assumption) (by decide) | exact rmK (k := 65) (by assumption) (by decide) | exact rmK (k := 66) (by assumption) (by decide) | exact rmK (k := 68) (by assumption) (by decide))
  trivial
open Fl
theorem rows_LawP9_0 : True := by
  k_with "k_steps" => (repeat' (first | (k_unfold; (try dsimp only)) | (k_end; wrow_close) | ((with_reducible show wpAny _ _ (subscriptTail _ _ _ _) _ _ _); walk1) | ((try dsimp only); walk1) | walk1 | (leave1; walk_say "STEP leave1"; try dsimp only) | fail "no step"))
  trivial
theorem up9 {α : Type} {p a : α} {l : List α} (h : p ∈ l) : p ∈ a :: l := List.mem_cons_of_mem _ h
section
variable {w : World} {mean : ExcName → Option Value} {mg mb : Str → Option Value} {dp un : Nat} {gd : Option (List Code)} {a : Addr} {ccd : Value} {outer : List Env} {A₀ : Around} {base h₀ hV : Heap} {L : Addr} {s : Shared} {Q : Flow → Shared → Prop} {E : Value → Shared → Prop} {cF cO c1 cC : Addr}
  (V : LooseAre looseV mg hV) (hB : Below A₀ base [] h₀) (KX : (hd.heap_39 w.params).In h₀) (T : Top hd.view_39 (looseW hd.view_39 looseN) mean mg mb h₀) (XB : (hd.heap_39 w.params).In base) (TB : Top hd.view_39 (looseW hd.view_39 looseN) mean mg mb base)
  (hdp : dp + 9 < recursionLimit) (hun : un + 100 < cLine)
include V hB KX T XB TB hdp hun
theorem law_p9 {CL DP D : Addr} {c f e1 e2 port : Int} {n th fo cap : Nat} {t0 t3 u1 u2 u3 tt tp : Tok} {u : Str → Option Value} {vs : List Value} {oF oC : Obj} {news tl : List (Addr × Obj)} (P : Fl.Par c f e1 e2) (H : Hits c f e1 e2 th fo) (hn : n ≤ 66) (hn3 : n = fo + 3)
    (hcol : ∀ t, t ≤ n → ∃ ad a1 a2 a3, vs[t]? = some (.ref ad) ∧ (ad, tupC (colAt c f e1 e2 t) a1 a2 a3) ∈ tl)
    (hport : port = ((((rangeKs 0 ((n : Int) - 0).toNat).map (fun k' => dig c f e1 e2 k'.toNat)).drop (th + 1)).take (fo - (th + 1))).foldl (fun a b => 10 * a + b) 0)
    (F : Fr h₀ L s.heap (fmu (fL c f e1 e2 port n th fo CL DP D tp tt u1 u2 u3) u)) (N : News h₀ L s.heap news) (mL : (CL, W.listOf vs.toArray cap) ∈ news) (mA : ∀ p ∈ tl, p ∈ news) (mF : (cF, oF) ∈ news) (mC : (cC, oC) ∈ news) (dF : oF.data = .cell (some (.int f t0))) (dC : oC.data = .cell (some (.int c t3)))
    (hret : ∀ (h' : Heap) (tk' : Nat) (m' : Str → Option Value), Fr h₀ L h' m' → Q .next { s with heap := h', toks := tk' }) :
    wpC (model Challenge.rw_pg0104_01.row.prog w) (ktrTop dp un gd (S "law") lawS L a ccd (lawCl cF cO c1 cC) []) (execs ((lawRec.body.drop 18).take 1) (envX (S "law") lawS L a ccd (lawCl cF cO c1 cC))) Q E s := by
  revert KX; k_fill; intro KX
  dsimp only [lawRec, dOf, List.take, List.drop]
  dsimp only [fL] at F
  refine wpC_execs_cons (wpC_For ?_)
  k_steps
  rename IsRange _ _ _ _ _ _ _ _ => rgX
  rename Fr _ _ _ _ => lF9
  rename News _ _ _ _ => lN9
  refine loopC (n := n + 1) [S "shown", S "reply", S "peer", S "heard"] rfl rgX (by omega) lF9 lN9 (by rfl) (by rfl) ?kt ?kd
  case kd =>
    intro u' h' tk' F' N'
    exact wpC_of (wpAny_execs_nil (hret _ _ _ F'))
  case kt =>
    intro i t u' own h tk hi hown F' N'
    clear lF9 lN9 rgX
    obtain ⟨j, hj⟩ : ∃ j : Nat, (j : Int) = max (i : Int) 1 - 1 := ⟨i - 1, by omega⟩
    obtain ⟨ad, a1, a2, a3, hx, hm⟩ := hcol j (by omega)
    have F'' := frEq F' (m' := fmu ((S "cut", .int (i : Int) t) :: fL c f e1 e2 port n th fo CL DP D tp tt u1 u2 u3) (fun y => if [S "shown", S "reply", S "peer", S "heard"].contains y = true then u' y else u y)) (fun z => congrFun (fmuMap (x := S "cut") (v := .int (i : Int) t) (stored := [S "shown", S "reply", S "peer", S "heard"]) (u := u) (u' := u') (l := fL c f e1 e2 port n th fo CL DP D tp tt u1 u2 u3) (by intro p hp; simp only [fL, List.mem_cons, List.not_mem_nil, or_false] at hp; rcases hp with rfl | rfl | rfl | rfl | rfl | rfl | rfl | rfl <;> rfl)) z)
    refine law_turn V hB KX T XB TB hdp hun P H hn hn3 (by omega) hj hx hport F'' N' (up9 mL) (up9 (mA _ hm)) (up9 mF) (up9 mC) dF dC ?_
    intro h₁ tk₁ vh tr ts F₁ N₁
    refine CPost.intro F₁ N₁ ?_
    exact fmuEnd (x := S "cut") (stored := [S "shown", S "reply", S "peer", S "heard"]) (a := [(S "heard", vh), (S "peer", .ref ad), (S "reply", .str (repS (cutI c f e1 e2 i)) tr), (S "shown", .str (textOf c f e1 e2 i) ts), (S "cut", .int (i : Int) t)]) (l := fL c f e1 e2 port n th fo CL DP D tp tt u1 u2 u3)
      (by intro p hp; simp only [List.mem_cons, List.not_mem_nil, or_false] at hp; rcases hp with rfl | rfl | rfl | rfl | rfl <;> first | exact .inl rfl | exact .inr (by simp))
      (by intro p hp; simp only [fL, List.mem_cons, List.not_mem_nil, or_false] at hp; rcases hp with rfl | rfl | rfl | rfl | rfl | rfl | rfl | rfl <;> rfl)
end
end Mine
end
section
open PySem PySem.W PySem.Spec PySem.Calls PyProof.Rows
namespace Mine
theorem rows_LawAll : True := by
  k_with_none
  w_top off
  k_with "storeName" => ((k_here; k_dflt (refine' storeL9 ?F9z ?N9z ?_ ?a9z ?b9z; (case F9z => k_asm); (case N9z => k_asm); (case a9z => rfl); (case b9z => rfl); k_whole; intro h' m' F' N'; (try k_sweep))))
  k_with "ktr_room" => (first | exact rmK (k := 0) (by assumption) (by decide) | exact rmK (k := 1) (by assumption) (by decide) | exact rmK (k := 2) (by assumption) (by decide) | exact rmK (k := 3) (by assumption) (by decide) | exact rmK (k := 4) (by assumption) (by decide) | exact rmK (k := 5) (by assumption) (by decide) | exact rmK (k := 6) (by assumption) (by decide) | exact rmK (k := 7) (by assumption) (by decide) | exact rmK (k := 8) (by assumption) (by decide) | exact rmK (k := 9) (by assumption) (by decide))
  k_with "ktr_units" => (first | exact rmK (k := 0) (by assumption) (by decide) | exact rmK (k := 1) (by assumption) (by decide) | exact rmK (k := 2) (by assumption) (by decide) | exact rmK (k := 3) (by assumption) (by decide) | exact rmK (k := 4) (by assumption) (by decide) | exact rmK (k := 5) (by assumption) (by decide) | exact rmK (k := 6) (by assumption) (by decide) | exact rmK (k := 7) (by assumption) (by decide) | exact rmK (k := 8) (by assumption) (by decide) | exact rmK (k := 9) (by assumption) (by decide) | exact rmK (k := 10) (by assumption) (by decide) | exact rmK (k := 12) (by assumption) (by decide) | exact rmK (k := 13) (by assumption) (by decide) | exact rmK (k := 14) (by assumption) (by decide) | exact rmK (k := 15) (by assumption) (by decide) | exact rmK (k := 16) (by assumption) (by decide) | exact rmK (k := 17) (by assumption) (by decide) | exact rmK (k := 18) (by assumption) (by decide) | exact rmK (k := 20) (by assumption) (by decide) | exact rmK (k := 21) (by assumption) (by decide) | exact rmK (k := 22) (by assumption) (by decide) | exact rmK (k := 23) (by assumption) (by decide) | exact rmK (k := 24) (by assumption) (by decide) | exact rmK (k := 25) (by assumption) (by decide) | exact rmK (k := 26) (by assumption) (by decide) | exact rmK (k := 30) (by assumption) (by decide) | exact rmK (k := 32) (by assumption) (by decide) | exact rmK (k := 33) (by assumption) (by decide) | exact rmK (k := 34) (by assumption) (by decide) | exact rmK (k := 36) (by assumption) (by decide) | exact rmK (k := 64) (by assumption) (by decide) | exact rmK (k := 65) (by assumption) (by decide) | exact rmK (k := 66) (by assumption) (by decide) | exact rmK (k := 68) (by assumption) (by decide))
  trivial
open Fl
theorem rows_LawAll_0 : True := by
  k_with "k_steps" => (repeat' (first | (k_unfold; (try dsimp only)) | (k_end; wrow_close) | ((with_reducible show wpAny _ _ (subscriptTail _ _ _ _) _ _ _); walk1) | ((try dsimp only); walk1) | walk1 | (leave1; walk_say "STEP leave1"; try dsimp only) | fail "no step"))
  trivial
theorem body_split {prog : Program} {w : World} {A : Around} {E : Value → Shared → Prop} {s : Shared} {env : Env} {Q : Flow → Shared → Prop} (i k : Nat)
    (h : wpC (model prog w) A (execs ((lawRec.body.drop i).take k) env) (fun f s' => match f with
      | .next => wpC (model prog w) A (execs (lawRec.body.drop (i + k)) env) Q E s'
      | f => Q f s') E s) : wpC (model prog w) A (execs (lawRec.body.drop i) env) Q E s := by
  refine wpC_execs_split k (wpC_mono h (fun f s₁ h₁ => ?_) fun _ _ x => x)
  cases f with
  | next => rw [List.drop_drop]; exact h₁
  | _ => exact h₁
section
variable {w : World} {mean : ExcName → Option Value} {mg mb : Str → Option Value} {dp un : Nat} {gd : Option (List Code)} {a : Addr} {ccd : Value} {outer : List Env} {A₀ : Around} {base h₀ hV : Heap} {L : Addr} {s : Shared} {Q : Flow → Shared → Prop} {E : Value → Shared → Prop} {cF cO c1 cC : Addr}
  (V : LooseAre looseV mg hV) (hB : Below A₀ base [] h₀) (KX : (hd.heap_39 w.params).In h₀) (T : Top hd.view_39 (looseW hd.view_39 looseN) mean mg mb h₀) (XB : (hd.heap_39 w.params).In base) (TB : Top hd.view_39 (looseW hd.view_39 looseN) mean mg mb base)
  (hdp : dp + 9 < recursionLimit) (hun : un + 100 < cLine)
include V hB KX T XB TB hdp hun
theorem law_p10 {m : Str → Option Value} (F : Fr h₀ L s.heap m)
    (hret : ∀ (h' : Heap) (tk' : Nat), Fr h₀ L h' m → Q (.ret (.bool true)) { s with heap := h', toks := tk' }) :
    wpAny (model Challenge.rw_pg0104_01.row.prog w) (ktrTop dp un gd (S "law") lawS L a ccd (lawCl cF cO c1 cC) []) (execs (lawRec.body.drop 19) (envX (S "law") lawS L a ccd (lawCl cF cO c1 cC))) Q E s := by
  revert KX; k_fill; intro KX
  dsimp only [lawRec, dOf, List.take, List.drop]
  k_steps
  exact hret _ _ (by assumption)
theorem law_all {l : Addr} {vs : List Value} {ns : List Int} {oF oO o1 oC : Obj} {vF vO v1 vC : Option Value} (hl : h₀.IsList l vs.toArray) (hi : IntsAre vs ns) (hlen : ns.length ≤ 63) (F : Fr h₀ L s.heap (fm [(S "script", .ref l)]))
    (N : News h₀ L s.heap [(cF, oF), (cO, oO), (c1, o1), (cC, oC)]) (hdist : @LT.lt Nat _ cO cF ∧ @LT.lt Nat _ c1 cO ∧ @LT.lt Nat _ cC c1)
    (dF : oF.data = .cell vF) (dO : oO.data = .cell vO) (d1 : o1.data = .cell v1) (dC : oC.data = .cell vC)
    (hret : ∀ (h' : Heap) (tk' : Nat) (m' : Str → Option Value), Fr h₀ L h' m' → Q (.ret (.bool true)) { s with heap := h', toks := tk' }) :
    wpC (model Challenge.rw_pg0104_01.row.prog w) (ktrTop dp un gd (S "law") lawS L a ccd (lawCl cF cO c1 cC) []) (execs lawRec.body (envX (S "law") lawS L a ccd (lawCl cF cO c1 cC))) Q E s := by
  have hun30 := rmK (k := 30) hun (by decide)
  refine body_split 0 1 (wpC_of (law_p1 V hB KX T hdp hun30 hl hi hlen F N fun z0 z1 z2 z3 t0 t1 t2 t3 la cp h₁ tk₁ hlt F₁ N₁ => ?_))
  refine body_split 1 4 (wpC_of (law_p2 V hB KX T hdp hun30 F₁ N₁ ⟨hdist.1, hdist.2.1, hdist.2.2, hlt⟩ dF dO d1 dC fun c f e1 e2 t0 t1 t2 t3 oF oO o1 oC h₂ tk₂ b1 b2 b3 b4 b5 b6 b7 b8 F₂ N₂ dF dO d1 dC => ?_))
  refine body_split 5 1 (wpC_of (law_p3 V hB KX T hdp hun30 b1 b2 b3 b4 b5 b6 F₂ N₂ hdist dF dO d1 dC fun r tr h₃ tk₃ R F₃ N₃ => ?_))
  refine body_split 6 1 (wpC_of (law_p4 V hB KX T hdp hun30 b1 b2 b3 b4 b5 b6 R F₃ N₃ hdist dF dO d1 dC fun DM ys ms h₄ tk₄ M hI F₄ N₄ => ?_))
  refine body_split 7 4 (wpC_of (law_p5 (f := f) (t0 := t0) (t1 := t1) (t2 := t2) (t3 := t3) V hB KX T hdp hun b1 b2 R M hI F₄ N₄ fun thi foi u1 u2 u3 h₅ tk₅ u TF F₅ N₅ => ?_))
  have P : Fl.Par c f e1 e2 := ⟨b1, b2, b7, b8, by omega, by omega, b5, by omega⟩
  obtain ⟨th, fo, rfl, rfl, H⟩ := hits_ex P R M TF
  have hle := H.le
  have hlt' := H.lt
  obtain ⟨n, hn⟩ : ∃ n : Nat, n = fo + 3 := ⟨_, rfl⟩
  have en : (fo : Int) + 3 = (n : Int) := by omega
  rw [en] at F₅
  have hn66 : n ≤ 66 := by omega
  refine body_split 11 3 (wpC_of (law_p6 (u1 := u1) (u2 := u2) V hB KX T hdp hun P hn66 F₅ N₅ dF dO d1 dC fun CL D cs cap tl tt h₆ tk₆ hcl hcol F₆ N₆ => ?_))
  refine body_split 14 2 (wpC_of (law_p7 (u1 := u1) (u2 := u2) V hB KX T hdp hun P hn66 F₆ N₆ dF dO d1 dC fun h₇ tk₇ DP ps hP F₇ N₇ => ?_))
  refine body_split 16 2 (law_p8 V hB KX T hdp hun (n := n) (th := th) (fo := fo) hP (by rw [List.length_map, rangeKs_length]; omega) hn66 (by omega) (by omega) (by omega) F₇ N₇ fun h₈ tk₈ tp u' F₈ N₈ => ?_)
  refine body_split 18 1 (law_p9 (vs := cs) (cap := cap) V hB KX T XB TB hdp hun P H hn66 hn hcol rfl F₈ N₈ (cF := cF) (cC := cC) (oF := oF) (oC := oC) ?_ ?_ ?_ ?_ dF dC fun h₉ tk₉ m₉ F₉ => ?_)
  · exact List.mem_cons_of_mem _ (List.mem_cons_of_mem _ (List.mem_cons_of_mem _ (List.mem_cons_of_mem _ (List.mem_cons_of_mem _ List.mem_cons_self))))
  · exact fun p hp => List.mem_cons_of_mem _ (List.mem_cons_of_mem _ (List.mem_cons_of_mem _ (List.mem_cons_of_mem _ (List.mem_cons_of_mem _ (List.mem_cons_of_mem _ hp)))))
  · exact List.mem_cons_of_mem _ List.mem_cons_self
  · exact List.mem_cons_of_mem _ (List.mem_cons_of_mem _ (List.mem_cons_of_mem _ (List.mem_cons_of_mem _ List.mem_cons_self)))
  exact wpC_of (law_p10 V hB KX T XB TB hdp hun F₉ fun h' tk' F' => hret h' tk' _ F')
end
end Mine
end
section
open PySem PySem.W PySem.Spec PySem.Calls PyProof.Rows
namespace Mine
open Fl
section
variable {prog : Program} {w : World} {A : Around} {s : Shared}
theorem codeC_call_cells {R : Result → Shared → Prop} {a : Addr} {o : Obj} {fd : FuncData} {body : List Stmt} {vals : List Value} {binds : List (Str × Value)}
    (hroom : A.depth < recursionLimit) (ho : s.heap.get? a = some o) (hdata : o.data = .func fd) (hlim : s.heap.NoLimit) (hcd : s.heap.CodeRec fd.code fd.qualname)
    (hbody : fd.body = .stmts body) (hbind : bindArgs fd ⟨vals, []⟩ = pure binds) (hclo : fd.closure = [])
    (hkind : ∀ x ∈ binds, fd.scope.names.lookup x.1 = some .local ∨ (fd.scope.names.lookup x.1 = some .cell ∧ ((cellsFrom (s.heap.objs.size + 1) fd.scope.names []).lookup x.1).isSome = true))
    (h : ∀ s₁, InCallC s (callEnvC fd s.heap.objs.size a).locals (bindL (callEnvC fd s.heap.objs.size a).kindOf binds fun _ => none) (callEnvC fd s.heap.objs.size a).cells
        (bindC (callEnvC fd s.heap.objs.size a).kindOf binds fun _ => none) s₁ →
      wpC (model prog w) (A.deeper (callEnvC fd s.heap.objs.size a)) (execs body (callEnvC fd s.heap.objs.size a)) (fun f s' => R (.ok (.ret (match f with | .ret v => v | _ => .none))) s')
        (fun _ _ => False) s₁)
    (hco : fd.scope.isCoroutine = false := by rfl) (hgen : fd.scope.isGenerator = false := by rfl) (hk : fd.scope.kind = .function := by rfl) :
    codeC (model prog w) A (.call (.ref a) ⟨vals, []⟩) R s := by
  refine codeC_call_function hroom ho hdata hco hgen hbody hcd ?_
  rw [hbind, hclo]
  refine wpAny_pure (wpAny_newFunctionEnv_cells hk hkind fun env he s' x => ?_)
  subst he
  exact ⟨hlim.keeps x.toInCall.keep, codeC_func (wpC_mono (h s' x) (fun _ _ y => y) fun _ _ y => y.elim)⟩
theorem call_cellsNC {R : Result → Shared → Prop} {name : Str} {params : Arguments} {body : List Stmt} {scope : Scope}
    {pm cd doc : Value} {a : Addr} {o : Obj} {args : List Value} {binds : List (Str × Value)}
    (hroom : A.depth < recursionLimit) (ho : s.heap.get? a = some o) (hdata : o.data = .func (Calls.docDef name params body scope pm cd doc)) (hlim : s.heap.NoLimit) (hcd : s.heap.CodeRec cd name)
    (hbind : bindArgs (Calls.docDef name params body scope pm cd doc) ⟨args, []⟩ = pure binds)
    (hkind : ∀ x ∈ binds, scope.names.lookup x.1 = some .local ∨ (scope.names.lookup x.1 = some .cell ∧ ((cellsFrom (s.heap.objs.size + 1) scope.names []).lookup x.1).isSome = true))
    (hnd : ((cellsFrom 0 scope.names []).map (·.1)).Nodup)
    (h : ∀ h₁ tk cells, Fr s.heap s.heap.objs.size h₁ (bindL (envOfC name scope s.heap.objs.size a cd).kindOf binds fun _ => none) → News s.heap s.heap.objs.size h₁ cells →
      CellsAre (bindC (envOfC name scope s.heap.objs.size a cd).kindOf binds fun _ => none) (cellsFrom (s.heap.objs.size + 1) scope.names []) cells →
      wpC (model prog w) (A.deeper (envOfC name scope s.heap.objs.size a cd)) (execs body (envOfC name scope s.heap.objs.size a cd))
        (fun f s' => R (.ok (.ret (match f with | .ret v => v | _ => .none))) s') (fun _ _ => False) { s with heap := h₁, toks := tk })
    (hco : scope.isCoroutine = false := by rfl) (hgen : scope.isGenerator = false := by rfl) (hk : scope.kind = .function := by rfl) :
    codeC (model prog w) A (.call (.ref a) ⟨args, []⟩) R s := by
  refine codeC_call_cells (fd := Calls.docDef name params body scope pm cd doc) hroom ho hdata hlim hcd rfl hbind rfl hkind (fun s₁ X => ?_) hco hgen hk
  obtain ⟨h₁, tk, rfl, _⟩ := X.done
  have F : Fr s.heap s.heap.objs.size h₁ (bindL (envOfC name scope s.heap.objs.size a cd).kindOf binds fun _ => none) := ⟨X.toInCall.ns, X.toInCall.keep, X.toInCall.fresh⟩
  obtain ⟨cells, N, Y⟩ := Cl.news (h₀ := s.heap) (L := s.heap.objs.size) (cs := cellsFrom (s.heap.objs.size + 1) scope.names []) (h := h₁) (cm := bindC (envOfC name scope s.heap.objs.size a cd).kindOf binds fun _ => none) (Nat.le_refl _)
    (fun n c hm => ⟨X.cell n c (lookup_of_mem_nodup (cellsFrom_names scope.names 0 (s.heap.objs.size + 1) [] [] rfl ▸ hnd) hm), X.above n c hm⟩)
  exact h h₁ tk cells F N Y
end
theorem enter_callWC {M : Model} {A : Around} {s : Shared} {f : Value} {pos : List Value} {kw : List (PySem.Str × Value)} {c : ClaimW} {cl : PySem.Str → Option Addr} {mean : ExcName → Option Value} {args : List WData} {s₁ : Shared}
    (h : codeC M A (.call f ⟨pos, kw⟩) (GoodWG c cl mean args s₁) s) : wpC M A (PySem.call f pos kw) (fun v s' => GoodWG c cl mean args s₁ (.ok (.ret v)) s') (fun e s' => GoodWG c cl mean args s₁ (.error e) s') s :=
  wpC_call (codeC_mono h fun res s' g => by rcases g.1 with ⟨v, _, _, rfl, _⟩ | ⟨e, _, _, rfl, _⟩ <;> exact g)
end Mine
end
open PySem PySem.W PySem.Spec PySem.Calls PyProof.Rows Mine
set_option maxRecDepth 100000 in
set_option maxHeartbeats 8000000 in
theorem PySem.Challenge.cw_pg0104_01_holds : PySem.Challenge.rw_pg0104_01.Holds := by
  refine Mine.hd ?_
  k_fill
  intro w s₀ s₁ mg mb G Y fa o pm cd doc dV kV ho hdt hcd hD hmg hg args vals as hpre hlay hrd hwl hlo
  have KX := kIn_of Y
  have X := (Ground.X G).1
  have V := (Ground.X G).2
  refine Ground.open G ?_
  intro T B D TE TW
  wrow_args hpre hlay hrd hwl hlo
  refine enter_callWC ?_
  refine codeC_mono ?_ (fun _ _ g => GoodW.toG g)
  have K0 := below_caller (Top.heap T)
  have he := Dflts.none hD rfl
  subst he
  have he := Dflts.noKw hD
  subst he
  refine call_cellsNC (by decide) ho (fd_plain hdt) (Top.nolimit T) hcd rfl (kinds_of (by kinds_ok)) (by decide) fun h₁ tk₁ cells F N0 X0 => ?_
  cells_open X0
  clear hdt hcd hD hmg
  rename s₁.heap.IsList _ _ => hL9
  rename IntsAre _ _ => hI9
  refine law_all V K0 KX T KX T ?hdp ?hun hL9 hI9 ?hlen (frEq F fun z => ?hF) N0 ?hdist (by assumption) (by assumption) (by assumption) (by assumption) fun h' tk' m' F' => ?hend
  case hF => rfl
  case hdp => decide
  case hun => decide
  case hlen => omega
  case hdist => exact ⟨Nat.lt_succ_self _, Nat.lt_succ_self _, Nat.lt_succ_self _⟩
  case hend =>
    clear F
    k_end
    wrow_close
