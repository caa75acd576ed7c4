/-
  PLAIN LAW: subtracting one and the same finite number from two floats keeps their order (rounding to nearest, ties to even, is monotone). Over the model's own 'Ieee'. No Go in sight.
-/
import Ieee.Arith
import Derived.Laws.FloatBits
namespace Go.Proofs.Qxb6602998a.Mono
open Ieee

/-- 'n / 2 ^ d' to the nearest whole number, ties to even. -/
def rnd (n d : Nat) : Nat := n / 2 ^ d + (decide (2 ^ d < 2 * (n % 2 ^ d)) || (2 ^ d == 2 * (n % 2 ^ d) && n / 2 ^ d % 2 == 1)).toNat

theorem cut_even (neg : Bool) (n d : Nat) (h : d ≤ n.log2 + 2) : Toward.even.cut neg n d = rnd n d := by
  unfold Toward.cut rnd
  rw [Nat.min_eq_left h]
  simp only [Nat.shiftLeft_eq, Nat.one_mul]

theorem toNat_le_one (b : Bool) : b.toNat ≤ 1 := by cases b <;> decide

theorem rnd_ge (n d : Nat) : n / 2 ^ d ≤ rnd n d := by unfold rnd; omega
theorem rnd_le (n d : Nat) : rnd n d ≤ n / 2 ^ d + 1 := by
  unfold rnd
  have := toNat_le_one (decide (2 ^ d < 2 * (n % 2 ^ d)) || (2 ^ d == 2 * (n % 2 ^ d) && n / 2 ^ d % 2 == 1))
  omega

theorem rnd_mono {n m : Nat} (d : Nat) (h : n ≤ m) : rnd n d ≤ rnd m d := by
  have hq : n / 2 ^ d ≤ m / 2 ^ d := Nat.div_le_div_right h
  rcases Nat.lt_or_eq_of_le hq with hlt | heq
  · have a := rnd_le n d
    have b := rnd_ge m d
    omega
  · have e1 := Nat.div_add_mod n (2 ^ d)
    have e2 := Nat.div_add_mod m (2 ^ d)
    unfold rnd
    rw [heq] at e1 ⊢
    generalize m / 2 ^ d = q at *
    have hr : n % 2 ^ d ≤ m % 2 ^ d := by omega
    generalize n % 2 ^ d = r at *
    generalize m % 2 ^ d = r' at *
    generalize 2 ^ d = g at *
    have : (decide (g < 2 * r) || (g == 2 * r && q % 2 == 1)) = true → (decide (g < 2 * r') || (g == 2 * r' && q % 2 == 1)) = true := by
      intro hb
      simp only [Bool.or_eq_true, decide_eq_true_eq, Bool.and_eq_true, beq_iff_eq] at hb ⊢
      omega
    have hle : (decide (g < 2 * r) || (g == 2 * r && q % 2 == 1)).toNat ≤ (decide (g < 2 * r') || (g == 2 * r' && q % 2 == 1)).toNat := by
      cases hb : (decide (g < 2 * r) || (g == 2 * r && q % 2 == 1)) with
      | false => simp
      | true => rw [this hb]; simp
    omega

theorem rnd_scale (n d e : Nat) : rnd (n * 2 ^ e) (d + e) = rnd n d := by
  have hp : 0 < 2 ^ e := Nat.two_pow_pos e
  have h1 : n * 2 ^ e / 2 ^ (d + e) = n / 2 ^ d := by
    rw [Nat.pow_add]; exact Nat.mul_div_mul_right _ _ hp
  have h2 : n * 2 ^ e % 2 ^ (d + e) = n % 2 ^ d * 2 ^ e := by
    rw [Nat.pow_add]; exact Nat.mul_mod_mul_right _ _ _
  have h3 : decide (2 ^ (d + e) < 2 * (n % 2 ^ d * 2 ^ e)) = decide (2 ^ d < 2 * (n % 2 ^ d)) := by
    rw [decide_eq_decide, Nat.pow_add, ← Nat.mul_assoc]
    exact Nat.mul_lt_mul_right hp
  have h4 : (2 ^ (d + e) == 2 * (n % 2 ^ d * 2 ^ e)) = (2 ^ d == 2 * (n % 2 ^ d)) := by
    rw [Bool.eq_iff_iff, beq_iff_eq, beq_iff_eq, Nat.pow_add, ← Nat.mul_assoc]
    exact Nat.mul_left_inj (Nat.pos_iff_ne_zero.1 hp)
  unfold rnd
  rw [h1, h2, h3, h4]

/-- The rung of the magnitude 'N' (in units of the least place), before the cut at infinity. -/
def rung (F N : Nat) : Nat := (N.log2 - F) * 2 ^ F + rnd N (N.log2 - F)

theorem log2_mono {n m : Nat} (h : n ≤ m) : n.log2 ≤ m.log2 := by
  by_cases hn : n = 0
  · subst hn; simp
  · have hm : m ≠ 0 := by omega
    exact (Nat.le_log2 hm).2 (Nat.le_trans (Nat.log2_self_le hn) h)

theorem rung_mono (F : Nat) {n m : Nat} (h : n ≤ m) : rung F n ≤ rung F m := by
  have hl := log2_mono h
  unfold rung
  by_cases e : n.log2 - F = m.log2 - F
  · rw [e]
    have := rnd_mono (m.log2 - F) h
    omega
  · have hlt : n.log2 - F < m.log2 - F := by omega
    have hm : m ≠ 0 := by intro h0; subst h0; simp at hlt
    -- the lesser one stays below the next binade
    have a : rnd n (n.log2 - F) ≤ 2 ^ (F + 1) := by
      have h1 : n < 2 ^ (n.log2 + 1) := Nat.lt_log2_self
      have h2 : n < 2 ^ (n.log2 - F) * 2 ^ (F + 1) := by
        rw [← Nat.pow_add]
        exact Nat.lt_of_lt_of_le h1 (Nat.pow_le_pow_right (by decide) (by omega))
      have h3 : n / 2 ^ (n.log2 - F) < 2 ^ (F + 1) := Nat.div_lt_of_lt_mul h2
      have := rnd_le n (n.log2 - F)
      omega
    have b : 2 ^ F ≤ rnd m (m.log2 - F) := by
      have h1 : 2 ^ m.log2 ≤ m := Nat.log2_self_le hm
      have h2 : 2 ^ F * 2 ^ (m.log2 - F) ≤ m := by
        rw [← Nat.pow_add]
        have : F + (m.log2 - F) = m.log2 := by omega
        rw [this]; exact h1
      have h3 : 2 ^ F ≤ m / 2 ^ (m.log2 - F) := (Nat.le_div_iff_mul_le (Nat.two_pow_pos _)).2 h2
      exact Nat.le_trans h3 (rnd_ge _ _)
    have c : (n.log2 - F + 1) * 2 ^ F ≤ (m.log2 - F) * 2 ^ F := Nat.mul_le_mul_right _ hlt
    rw [Nat.add_mul] at c
    rw [Nat.pow_succ] at a
    omega

theorem log2_mul_pow (n p : Nat) (h : n ≠ 0) : (n * 2 ^ p).log2 = n.log2 + p := by
  induction p with
  | zero => simp
  | succ p ih =>
    rw [Nat.pow_succ, ← Nat.mul_assoc, Nat.mul_comm _ 2, Nat.log2_two_mul (by
      intro h0; rcases Nat.mul_eq_zero.1 h0 with h1 | h1
      · exact h h1
      · exact absurd h1 (Nat.pos_iff_ne_zero.1 (Nat.two_pow_pos p))), ih]
    omega

theorem nearest_eq (f : Format) (neg : Bool) (mag : Nat) (p : Nat) :
    f.nearest neg mag (f.leastPlace + p) = f.word neg (min (rung f.fractionBits (mag * 2 ^ p)) f.infRung) := by
  unfold Format.nearest
  by_cases h0 : mag = 0
  · subst h0
    simp [rung, rnd]
  · rw [if_neg h0]
    have hl := log2_mul_pow mag p h0
    unfold rung
    rw [hl]
    generalize hL : mag.log2 + p - f.fractionBits = L
    have elast : max (f.leastPlace + (p : Int) + (mag.log2 : Int) - (f.fractionBits : Int)) f.leastPlace = f.leastPlace + (L : Int) := by omega
    simp only [elast]
    have e1 : (f.leastPlace + (L : Int) - f.leastPlace).toNat = L := by omega
    rw [e1]
    congr 2
    by_cases hc : L ≤ p
    · have e2 : (f.leastPlace + (p : Int) - (f.leastPlace + (L : Int))).toNat = p - L := by omega
      have e3 : (f.leastPlace + (L : Int) - (f.leastPlace + (p : Int))).toNat = 0 := by omega
      rw [e2, e3, cut_even _ _ _ (Nat.zero_le _), Nat.shiftLeft_eq]
      have := rnd_scale (mag * 2 ^ (p - L)) 0 L
      rw [Nat.mul_assoc, ← Nat.pow_add, Nat.zero_add, Nat.sub_add_cancel hc] at this
      rw [this]; rfl
    · have e2 : (f.leastPlace + (p : Int) - (f.leastPlace + (L : Int))).toNat = 0 := by omega
      have e3 : (f.leastPlace + (L : Int) - (f.leastPlace + (p : Int))).toNat = L - p := by omega
      rw [e2, e3, cut_even _ _ _ (by rw [Nat.shiftLeft_eq]; simp; omega), Nat.shiftLeft_eq]
      have := rnd_scale mag (L - p) p
      rw [Nat.sub_add_cancel (by omega)] at this
      rw [this]; simp [Format.binade]


/-! ### The order of data whose places are not below 'L' -/
theorem signed_scale (s : Bool) (m a b : Nat) : signed s m (a + b) = signed s m a * (2 ^ b : Nat) := by
  unfold signed
  cases s <;> simp [Nat.shiftLeft_eq, Nat.pow_add, Int.neg_mul, Int.mul_assoc]

theorem compare_int (a b : Int) : compare a b = if a < b then .lt else if a = b then .eq else .gt := rfl

theorem compare_scale (a b : Int) (c : Nat) (hc : 0 < c) : compare (a * c) (b * c) = compare a b := by
  have hc' : (0 : Int) < c := by omega
  have h1 : (a * c < b * c) ↔ a < b := Int.mul_lt_mul_right hc'
  have h2 : (a * c = b * c) ↔ a = b := Int.mul_eq_mul_right_iff (by omega)
  rw [compare_int, compare_int]
  simp only [h1, h2]

/-- A number's value in units of the place 'L'. -/
def val (L : Int) (s : Bool) (m : Nat) (i : Int) : Int := signed s m (i - L).toNat

theorem val_base (L : Int) (s : Bool) (m : Nat) {i base : Int} (h1 : L ≤ base) (h2 : base ≤ i) :
    val L s m i = signed s m (i - base).toNat * (2 ^ (base - L).toNat : Nat) := by
  unfold val
  rw [← signed_scale]
  congr 1
  omega

theorem order_num (L : Int) (s t : Bool) (m n : Nat) (i j : Int) (hi : L ≤ i) (hj : L ≤ j) :
    (Datum.number s m i).order (.number t n j) = some (compare (val L s m i) (val L t n j)) := by
  have hb : L ≤ min i j := by omega
  rw [val_base L s m hb (Int.min_le_left i j), val_base L t n hb (Int.min_le_right i j), compare_scale _ _ _ (Nat.two_pow_pos _)]
  rfl

/-- 'd <= e'. -/
def Le (d e : Datum) : Prop := d.order e = some .lt ∨ d.order e = some .eq

theorem le_num {L : Int} {s t : Bool} {m n : Nat} {i j : Int} (hi : L ≤ i) (hj : L ≤ j) :
    Le (.number s m i) (.number t n j) ↔ val L s m i ≤ val L t n j := by
  unfold Le
  rw [order_num L s t m n i j hi hj, compare_int]
  by_cases h1 : val L s m i < val L t n j
  · simp [h1]; omega
  · by_cases h2 : val L s m i = val L t n j
    · simp [h2]
    · simp [h1, h2]; omega

/-- What reading a word gives: its places are not below the least. -/
def Fits (L : Int) : Datum → Prop
  | .number _ _ i => L ≤ i
  | _ => True

theorem read_fits (f : Format) (x : Nat) : Fits f.leastPlace (f.read x) := by
  unfold Format.read
  simp only
  split
  · exact Int.le_refl _
  · split
    · show f.leastPlace ≤ f.leastPlace + _
      omega
    · split <;> trivial

theorem le_infF {e : Datum} (h : e.isNaN = false) : Le e (.infinity false) := by
  cases e with
  | number s m i => exact .inl rfl
  | infinity s => cases s
                  · exact .inr rfl
                  · exact .inl rfl
  | nan s t => cases h

theorem le_infT {e : Datum} (h : e.isNaN = false) : Le (.infinity true) e := by
  cases e with
  | number s m i => exact .inl rfl
  | infinity s => cases s
                  · exact .inl rfl
                  · exact .inr rfl
  | nan s t => cases h

theorem not_nan_of_le {d e : Datum} (h : Le d e) : d.isNaN = false ∧ e.isNaN = false := by
  unfold Le at h
  cases d <;> cases e <;> first | exact ⟨rfl, rfl⟩ | (simp [Datum.order] at h)

theorem infF_le {e : Datum} (h : Le (.infinity false) e) : e = .infinity false := by
  unfold Le at h
  cases e with
  | number s m i => simp [Datum.order] at h
  | infinity s => cases s
                  · rfl
                  · revert h; decide
  | nan s t => simp [Datum.order] at h

theorem le_infT_eq {e : Datum} (h : Le e (.infinity true)) : e = .infinity true := by
  unfold Le at h
  cases e with
  | number s m i => simp [Datum.order] at h
  | infinity s => cases s
                  · revert h; decide
                  · rfl
  | nan s t => simp [Datum.order] at h

theorem le_trans {L : Int} {a b c : Datum} (fa : Fits L a) (fb : Fits L b) (fc : Fits L c) (h1 : Le a b) (h2 : Le b c) : Le a c := by
  have na := (not_nan_of_le h1).1
  have nc := (not_nan_of_le h2).2
  match b, fb, h1, h2 with
  | .nan s t, _, h1, _ => exact absurd (not_nan_of_le h1).2 (by simp [Datum.isNaN])
  | .infinity false, _, _, h2 => rw [infF_le h2]; exact le_infF na
  | .infinity true, _, h1, _ => rw [le_infT_eq h1]; exact le_infT nc
  | .number s m i, fb, h1, h2 =>
    match a, fa, h1 with
    | .nan s t, _, h1 => exact absurd na (by simp [Datum.isNaN])
    | .infinity true, _, _ => exact le_infT nc
    | .infinity false, _, h1 => exact absurd (infF_le h1) (by simp)
    | .number s' m' i', fa, h1 =>
      match c, fc, h2 with
      | .nan s t, _, h2 => exact absurd nc (by simp [Datum.isNaN])
      | .infinity false, _, _ => exact le_infF rfl
      | .infinity true, _, h2 => exact absurd (le_infT_eq h2) (by simp)
      | .number s'' m'' i'', fc, h2 =>
        rw [le_num fa fb] at h1
        rw [le_num fb fc] at h2
        rw [le_num fa fc]
        omega

theorem le_refl_of {L : Int} {a : Datum} (fa : Fits L a) (h : a.isNaN = false) : Le a a := by
  match a, fa with
  | .number s m i, fa => rw [le_num fa fa]; omega
  | .infinity true, _ => exact le_infT rfl
  | .infinity false, _ => exact le_infF rfl
  | .nan _ _, _ => cases h

/-- Not 'b < a', and no NaN: 'a <= b'. -/
theorem le_of_not_lt {L : Int} {a b : Datum} (fa : Fits L a) (fb : Fits L b) (na : a.isNaN = false) (nb : b.isNaN = false) (h : b.order a ≠ some .lt) : Le a b := by
  match a, fa, b, fb with
  | .nan _ _, _, _, _ => cases na
  | .number _ _ _, _, .nan _ _, _ => cases nb
  | .infinity _, _, .nan _ _, _ => cases nb
  | .infinity true, _, .number _ _ _, _ => exact le_infT rfl
  | .infinity true, _, .infinity _, _ => exact le_infT rfl
  | .infinity false, _, .number _ _ _, _ => exact absurd rfl h
  | .infinity false, _, .infinity false, _ => exact le_infF rfl
  | .infinity false, _, .infinity true, _ => exact absurd rfl h
  | .number _ _ _, _, .infinity false, _ => exact le_infF rfl
  | .number _ _ _, _, .infinity true, _ => exact absurd rfl h
  | .number s m i, fa, .number t n j, fb =>
    rw [order_num _ _ _ _ _ _ _ fb fa, compare_int] at h
    rw [le_num fa fb]
    by_cases h1 : val L t n j < val L s m i
    · simp [h1] at h
    · omega

/-! ### Reading a word back -/
/-- The magnitude on a rung, in units of the least place. -/
def mag (F r : Nat) : Nat := if r < 2 ^ F then r else (2 ^ F + r % 2 ^ F) * 2 ^ (r / 2 ^ F - 1)

theorem mag_mono (F : Nat) {r q : Nat} (h : r ≤ q) : mag F r ≤ mag F q := by
  have hF : 0 < 2 ^ F := Nat.two_pow_pos F
  unfold mag
  by_cases hq : q < 2 ^ F
  · rw [if_pos hq, if_pos (by omega)]; exact h
  · rw [if_neg hq]
    have one : 1 ≤ 2 ^ (q / 2 ^ F - 1) := Nat.two_pow_pos _
    by_cases hr : r < 2 ^ F
    · rw [if_pos hr]
      have : (2 ^ F + q % 2 ^ F) * 1 ≤ (2 ^ F + q % 2 ^ F) * 2 ^ (q / 2 ^ F - 1) := Nat.mul_le_mul_left _ one
      omega
    · rw [if_neg hr]
      have hd : r / 2 ^ F ≤ q / 2 ^ F := Nat.div_le_div_right h
      have h1 : 1 ≤ r / 2 ^ F := (Nat.le_div_iff_mul_le hF).2 (by omega)
      have er := Nat.div_add_mod r (2 ^ F)
      have eq := Nat.div_add_mod q (2 ^ F)
      by_cases e : r / 2 ^ F = q / 2 ^ F
      · rw [e] at er ⊢
        exact Nat.mul_le_mul_right _ (by omega)
      · have hm : r % 2 ^ F < 2 ^ F := Nat.mod_lt _ hF
        have p1 : 2 ^ (r / 2 ^ F - 1) * 2 ≤ 2 ^ (q / 2 ^ F - 1) := by
          rw [← Nat.pow_succ]
          exact Nat.pow_le_pow_right (by decide) (by omega)
        calc (2 ^ F + r % 2 ^ F) * 2 ^ (r / 2 ^ F - 1) ≤ (2 ^ F * 2) * 2 ^ (r / 2 ^ F - 1) := Nat.mul_le_mul_right _ (by omega)
          _ = 2 ^ F * (2 ^ (r / 2 ^ F - 1) * 2) := by rw [Nat.mul_assoc, Nat.mul_comm 2]
          _ ≤ 2 ^ F * 2 ^ (q / 2 ^ F - 1) := Nat.mul_le_mul_left _ p1
          _ ≤ (2 ^ F + q % 2 ^ F) * 2 ^ (q / 2 ^ F - 1) := Nat.mul_le_mul_right _ (by omega)

theorem read_word (f : Format) (s : Bool) (r : Nat) (h : r ≤ f.infRung) :
    (r = f.infRung ∧ f.read (f.word s r) = .infinity s) ∨ (∃ m i, f.read (f.word s r) = .number s m i ∧ f.leastPlace ≤ i ∧ val f.leastPlace s m i = if s then -(mag f.fractionBits r : Int) else (mag f.fractionBits r : Int)) := by
  have hlt : r < f.signWeight := Nat.lt_of_le_of_lt h f.infRung_lt
  have e1 : (f.word s r) / f.signWeight % 2 = s.toNat := by
    unfold Format.word
    cases s
    · simp [Nat.div_eq_of_lt hlt]
    · simp only [if_true]
      rw [Nat.add_div_left _ (by omega), Nat.div_eq_of_lt hlt]; rfl
  have e2 : (f.word s r) % f.signWeight = r := by
    unfold Format.word
    cases s
    · simp [Nat.mod_eq_of_lt hlt]
    · simp only [if_true]
      rw [Nat.add_mod_left, Nat.mod_eq_of_lt hlt]
  have e3 : (s.toNat == 1) = s := by cases s <;> rfl
  unfold Format.read
  simp only [e1, e2, e3]
  by_cases h1 : r < f.binade
  · right
    rw [if_pos h1]
    refine ⟨r, f.leastPlace, rfl, Int.le_refl _, ?_⟩
    have hm : mag f.fractionBits r = r := by unfold mag; exact if_pos h1
    rw [hm]
    unfold val signed
    cases s <;> simp
  · rw [if_neg h1]
    by_cases h2 : r < f.infRung
    · right
      rw [if_pos h2]
      refine ⟨_, _, rfl, by omega, ?_⟩
      have hm : mag f.fractionBits r = (f.binade + r % f.binade) * 2 ^ (r / f.binade - 1) := by unfold mag; exact if_neg h1
      rw [hm]
      have e4 : (f.leastPlace + ((r / f.binade - 1 : Nat) : Int) - f.leastPlace).toNat = r / f.binade - 1 := by omega
      unfold val
      rw [e4]
      unfold signed
      rw [Nat.shiftLeft_eq]
    · left
      have : r = f.infRung := by omega
      rw [if_neg h2, if_pos this]
      exact ⟨this, rfl⟩

/-- A word's place in the order. -/
def key (s : Bool) (r : Nat) : Int := if s then -(r : Int) else r

theorem le_of_key (f : Format) (s t : Bool) (r q : Nat) (hr : r ≤ f.infRung) (hq : q ≤ f.infRung) (hF : 0 < f.infRung) (h : key s r ≤ key t q) :
    Le (f.read (f.word s r)) (f.read (f.word t q)) := by
  rcases read_word f s r hr with ⟨er, e1⟩ | ⟨m, i, e1, hi, v1⟩ <;> rcases read_word f t q hq with ⟨eq, e2⟩ | ⟨n, j, e2, hj, v2⟩
  · rw [e1, e2]
    cases s
    · cases t
      · exact le_infF rfl
      · simp [key] at h; omega
    · exact le_infT rfl
  · rw [e1, e2]
    cases s
    · -- +infinity <= a finite number: the rungs say that they are one
      have hm := mag_mono f.fractionBits hq
      cases t
      · simp [key] at h
        have e3 : q = f.infRung := by omega
        rcases read_word f false f.infRung (Nat.le_refl _) with ⟨_, e4⟩ | ⟨_, _, e4, _, _⟩
        · rw [e3] at e2; rw [e4] at e2; cases e2
        · rw [← er] at e4; rw [e1] at e4; cases e4
      · simp [key] at h; omega
    · exact le_infT rfl
  · rw [e1, e2]
    cases t
    · exact le_infF rfl
    · cases s
      · simp [key] at h; omega
      · simp [key] at h
        have e3 : r = f.infRung := by omega
        rcases read_word f true f.infRung (Nat.le_refl _) with ⟨_, e4⟩ | ⟨_, _, e4, _, _⟩
        · rw [e3] at e1; rw [e4] at e1; cases e1
        · rw [← eq] at e4; rw [e2] at e4; cases e4
  · rw [e1, e2, le_num hi hj, v1, v2]
    cases s <;> cases t <;> simp [key] at h ⊢
    · exact mag_mono _ (by omega)
    · have : r = 0 := by omega
      have h2 : q = 0 := by omega
      subst this; subst h2
      simp [mag, Nat.two_pow_pos]
    · exact mag_mono _ (by omega)

/-! ### A sum, rounded -/
def keyOf (F I : Nat) (T : Int) : Int := if T < 0 then -((min (rung F T.natAbs) I : Nat) : Int) else ((min (rung F T.natAbs) I : Nat) : Int)

theorem keyOf_mono (F I : Nat) {a b : Int} (h : a ≤ b) : keyOf F I a ≤ keyOf F I b := by
  unfold keyOf
  by_cases h1 : a < 0
  · rw [if_pos h1]
    by_cases h2 : b < 0
    · rw [if_pos h2]
      have := rung_mono F (n := b.natAbs) (m := a.natAbs) (by omega)
      omega
    · rw [if_neg h2]; omega
  · rw [if_neg h1, if_neg (by omega)]
    have := rung_mono F (n := a.natAbs) (m := b.natAbs) (by omega)
    omega

theorem rung_zero (F : Nat) : rung F 0 = 0 := by simp [rung, rnd]

theorem sum_num (f : Format) (s u : Bool) (m k : Nat) (i e : Int) (hi : f.leastPlace ≤ i) (he : f.leastPlace ≤ e) :
    ∃ t r, r ≤ f.infRung ∧ ((Datum.number s m i).sum (.number u k e)).map f.write = some (f.word t r) ∧ key t r = keyOf f.fractionBits f.infRung (val f.leastPlace s m i + val f.leastPlace u k e) := by
  have hb : f.leastPlace ≤ min i e := by omega
  rw [val_base f.leastPlace s m hb (Int.min_le_left i e), val_base f.leastPlace u k hb (Int.min_le_right i e), ← Int.add_mul]
  simp only [Datum.sum, Option.map_some, Format.write]
  generalize htot : signed s m (i - min i e).toNat + signed u k (e - min i e).toNat = total
  obtain ⟨p, hp⟩ : ∃ p : Nat, min i e = f.leastPlace + p := ⟨(min i e - f.leastPlace).toNat, by omega⟩
  have hp2 : (min i e - f.leastPlace).toNat = p := by omega
  rw [hp2, hp, nearest_eq]
  refine ⟨_, _, Nat.min_le_right _ _, rfl, ?_⟩
  have hpos : (0 : Int) < ((2 ^ p : Nat) : Int) := by have := Nat.two_pow_pos p; omega
  have habs : (total * ((2 ^ p : Nat) : Int)).natAbs = total.natAbs * 2 ^ p := by
    rw [Int.natAbs_mul, Int.natAbs_natCast]
  unfold keyOf key
  rw [habs]
  by_cases h0 : total = 0
  · subst h0
    simp [rung_zero]
  · rw [if_neg h0]
    by_cases hneg : total < 0
    · have h2 : total * ((2 ^ p : Nat) : Int) < 0 := Int.mul_neg_of_neg_of_pos hneg hpos
      rw [if_pos h2]
      simp [hneg]
    · have h2 : ¬ total * ((2 ^ p : Nat) : Int) < 0 := by
        have := Int.mul_nonneg (a := total) (b := ((2 ^ p : Nat) : Int)) (by omega) (by omega)
        omega
      rw [if_neg h2]
      simp [hneg]

theorem infRung_pos (f : Format) (h : 0 < f.exponentBits) : 0 < f.infRung := by
  unfold Format.infRung Format.binade
  have h1 : 2 ^ 1 ≤ 2 ^ f.exponentBits := Nat.pow_le_pow_right (by decide) h
  have h2 := Nat.two_pow_pos f.fractionBits
  exact Nat.mul_pos (by omega) h2

/-- ████ THE LAW: 'x <= y' gives 'x - c <= y - c', c a finite number; and neither is a NaN. -/
theorem sub_mono (f : Format) (hf : 0 < f.exponentBits) (x y c : Nat) (hc : ∃ s m i, f.read c = .number s m i) (h : Le (f.read x) (f.read y)) :
    ∃ a b, f.sub x c = some a ∧ f.sub y c = some b ∧ Le (f.read a) (f.read b) := by
  have hI := infRung_pos f hf
  obtain ⟨u, k, e, hce⟩ := hc
  have he : f.leastPlace ≤ e := by have := read_fits f c; rw [hce] at this; exact this
  have fx := read_fits f x
  have fy := read_fits f y
  have nx := (not_nan_of_le h).1
  have ny := (not_nan_of_le h).2
  unfold Format.sub
  rw [hce]
  simp only [Datum.opposite]
  -- each of the two as a word
  have hw : ∀ d : Datum, Fits f.leastPlace d → d.isNaN = false → ∃ t r, r ≤ f.infRung ∧ (d.sum (.number (!u) k e)).map f.write = some (f.word t r) ∧
      (∀ s, d = .infinity s → t = s ∧ r = f.infRung) ∧ (∀ s m i, d = .number s m i → key t r = keyOf f.fractionBits f.infRung (val f.leastPlace s m i + val f.leastPlace (!u) k e)) := by
    intro d fd nd
    match d, fd with
    | .nan _ _, _ => cases nd
    | .infinity s, _ => exact ⟨s, f.infRung, Nat.le_refl _, rfl, fun s' hs => by cases hs; exact ⟨rfl, rfl⟩, fun _ _ _ hs => by cases hs⟩
    | .number s m i, fd =>
      obtain ⟨t, r, h1, h2, h3⟩ := sum_num f s (!u) m k i e fd he
      exact ⟨t, r, h1, h2, (fun _ hs => by cases hs), (fun _ _ _ hs => by cases hs; exact h3)⟩
  obtain ⟨tx, rx, hrx, ex, ix, kx⟩ := hw _ fx nx
  obtain ⟨ty, ry, hry, ey, iy, ky⟩ := hw _ fy ny
  refine ⟨_, _, ex, ey, le_of_key f tx ty rx ry hrx hry hI ?_⟩
  generalize f.read x = dx at *
  generalize f.read y = dy at *
  have bx : -(f.infRung : Int) ≤ key tx rx ∧ key tx rx ≤ f.infRung := by unfold key; split <;> omega
  have by' : -(f.infRung : Int) ≤ key ty ry ∧ key ty ry ≤ f.infRung := by unfold key; split <;> omega
  match dx, dy, fx, fy, h with
  | .nan _ _, _, _, _, _ => cases nx
  | .infinity true, _, _, _, _ =>
    obtain ⟨rfl, rfl⟩ := ix _ rfl
    have : key true f.infRung = -(f.infRung : Int) := rfl
    omega
  | .infinity false, dy, _, _, h =>
    obtain ⟨rfl, rfl⟩ := ix _ rfl
    obtain ⟨rfl, rfl⟩ := iy _ (infF_le h)
    exact Int.le_refl _
  | .number s m i, .nan _ _, _, _, _ => cases ny
  | .number s m i, .infinity false, _, _, _ =>
    obtain ⟨rfl, rfl⟩ := iy _ rfl
    have : key false f.infRung = (f.infRung : Int) := rfl
    omega
  | .number s m i, .infinity true, _, _, h => exact absurd (le_infT_eq h) (by simp)
  | .number s m i, .number t n j, fx, fy, h =>
    rw [kx _ _ _ rfl, ky _ _ _ rfl]
    rw [le_num fx fy] at h
    exact keyOf_mono _ _ (by omega)

end Go.Proofs.Qxb6602998a.Mono
