/-
  THE LAW's WALK.
-/
import Derived.Test.Qxb6602998aSlide
import Derived.Test.Qxb6602998aMono
namespace Go.Proofs.Qxb6602998a
open Go.RowKit

theorem read20 : ∃ s m i, FloatKind.f64.format.read 4626322717216342016 = .number s m i := ⟨false, 5629499534213120, -48, by decide +kernel⟩

/-- 'x <= y' as the comparison tells it. -/
theorem leq_iff (x y : Nat) : (FloatKind.f64.format.order x y == some .lt || FloatKind.f64.format.order x y == some .eq) = true ↔ Mono.Le (FloatKind.f64.format.read x) (FloatKind.f64.format.read y) := by
  unfold Mono.Le
  rw [Bool.or_eq_true, beq_iff_eq, beq_iff_eq]
  rfl

theorem sub20 (x y : Nat) (h : Mono.Le (FloatKind.f64.format.read x) (FloatKind.f64.format.read y)) :
    ∃ a b, floatBits .sub .f64 x 4626322717216342016 = some a ∧ floatBits .sub .f64 y 4626322717216342016 = some b ∧ Mono.Le (FloatKind.f64.format.read a) (FloatKind.f64.format.read b) :=
  Mono.sub_mono FloatKind.f64.format (by decide) x y _ read20 h

/-- Slid to 'hi', then to a time that is no later: the second slide rests. -/
theorem below_drewN (B : Nat) (w : World) (k : Nat) : Below B w (w.drewN k) := ⟨rfl, rfl, rfl, Nat.le_refl _, fun _ _ => rfl⟩
theorem meter_drewN {b s l n : Nat} {w : World} (hm : Meter b s l n w) (k : Nat) : Meter b s l n (w.drewN k) := ⟨hm.c0, hm.c1, hm.c2, hm.f0, hm.f1, hm.f2⟩

theorem not_nan_iff (x : Nat) : (FloatKind.f64.format.order x x == some .eq) = true ↔ (FloatKind.f64.format.read x).isNaN = false := by
  rw [beq_iff_eq]
  constructor
  · intro h
    exact (Mono.not_nan_of_le (d := FloatKind.f64.format.read x) (e := FloatKind.f64.format.read x) (.inr h)).1
  · intro h
    have f := Mono.read_fits FloatKind.f64.format x
    show (FloatKind.f64.format.read x).order (FloatKind.f64.format.read x) = some .eq
    generalize FloatKind.f64.format.read x = d at *
    match d, f with
    | .nan _ _, _ => cases h
    | .infinity true, _ => rfl
    | .infinity false, _ => rfl
    | .number s m i, f => rw [Mono.order_num _ _ _ _ _ _ _ f f, Mono.compare_int]; simp

/-- From 'lo <= hi' to the two facts that the walk wants. -/
structure Pair (lo hi a b : Nat) : Prop where
  ha : floatBits .sub .f64 lo 4626322717216342016 = some a
  hb : floatBits .sub .f64 hi 4626322717216342016 = some b
  hab : Mono.Le (FloatKind.f64.format.read a) (FloatKind.f64.format.read b)

theorem pair_of (x y : Nat) (nx : (FloatKind.f64.format.read x).isNaN = false) (ny : (FloatKind.f64.format.read y).isNaN = false) :
    ((FloatKind.f64.format.order y x == some .lt) = true ∧ ∃ a b, Pair y x a b) ∨ ((FloatKind.f64.format.order y x == some .lt) = false ∧ ∃ a b, Pair x y a b) := by
  have fx := Mono.read_fits FloatKind.f64.format x
  have fy := Mono.read_fits FloatKind.f64.format y
  by_cases h : FloatKind.f64.format.order y x = some .lt
  · left
    obtain ⟨a, b, h1, h2, h3⟩ := sub20 y x (.inl h)
    exact ⟨by simp [h], a, b, h1, h2, h3⟩
  · right
    obtain ⟨a, b, h1, h2, h3⟩ := sub20 x y (Mono.le_of_not_lt fx fy nx ny h)
    exact ⟨by simp [h], a, b, h1, h2, h3⟩

/-- The first slide, both ways: behind it 'from <= start'. -/
theorem slide_hi (m s l n now r : Nat) (w : World) (hm : Meter m s l n w) (hr : floatBits .sub .f64 now 4626322717216342016 = some r) (hn : (FloatKind.f64.format.read r).isNaN = false) :
    Calls Try.prog 19 #[.pointer (some ⟨m, 0, none⟩), .float .f64 now] w fun e w' => e = .returned (.tuple #[]) ∧ ∃ s' n', Meter m s' l n' w' ∧ Mono.Le (FloatKind.f64.format.read r) (FloatKind.f64.format.read s') ∧ Below m w w' := by
  by_cases h : (FloatKind.f64.format.order r s == some .lt || FloatKind.f64.format.order r s == some .eq) = true
  · refine (zzslide_rests m s l n now r w hm hr h).mono fun e w' ⟨he, hw⟩ => ⟨he, s, n, ?_⟩
    subst hw
    exact ⟨hm, (leq_iff _ _).1 h, Below.refl _ _⟩
  · refine (zzslide_moves m s l n now r w hm hr (by simpa using h)).mono fun e w' ⟨he, ⟨n', hm'⟩, hb⟩ => ⟨he, r, n', hm', ?_, hb⟩
    exact Mono.le_refl_of (Mono.read_fits FloatKind.f64.format r) hn

/-- What both ways behind the exchange come to: 'lo', 'hi' the two times in their order. -/
theorem order_lo (lo hi a b s' : Nat) (hp : Pair lo hi a b) (h : Mono.Le (FloatKind.f64.format.read b) (FloatKind.f64.format.read s')) :
    (FloatKind.f64.format.order a s' == some .lt || FloatKind.f64.format.order a s' == some .eq) = true :=
  (leq_iff _ _).2 (Mono.le_trans (Mono.read_fits _ a) (Mono.read_fits _ b) (Mono.read_fits _ s') hp.hab h)

set_option maxHeartbeats 1000000 in
theorem law_walk (s l n x y : Nat) (w : World) :
    Calls Try.prog 8 #[.float .f64 s, .float .f64 l, .float .f64 n, .float .f64 x, .float .f64 y] w fun e w' => e = .returned (.bool true) ∧ Below w.heap.size w w' := by
  by_cases hx : (FloatKind.f64.format.order x x == some .eq) = true
  · by_cases hy : (FloatKind.f64.format.order y y == some .eq) = true
    · have hx' : (FloatKind.f64.format.order x x != some .eq) = false := by simp [bne, hx]
      have hy' : (FloatKind.f64.format.order y y != some .eq) = false := by simp [bne, hy]
      rcases pair_of x y ((not_nan_iff x).1 hx) ((not_nan_iff y).1 hy) with ⟨hlt, a, b, hp⟩ | ⟨hlt, a, b, hp⟩
      all_goals
        clear hx hy
        have hnan := (Mono.not_nan_of_le hp.hab).2
        go_enter Try.func8, Try.ntmps8
        go_wp2_with fail
        refine (new_any s l n _).mono ?_
        rintro e w1 ⟨rfl, hm1, hb1⟩
        go_wp2_with fail
        refine (slide_hi _ s l n _ b _ hm1 hp.hb hnan).mono ?_
        rintro e w2 ⟨rfl, s2, n2, hm2, hle2, hb2⟩
        have H1 : Hid _ := (hb1.trans hb2)
        clear hm1 hb1 hb2
        go_wp2_with fail
        refine (fields_any _ s2 l n2 _ hm2).mono ?_
        rintro e w3 ⟨rfl, k, rfl⟩
        go_wp2_with fail
        refine (zzslide_rests _ s2 l n2 _ a _ (meter_drewN hm2 _) hp.ha (order_lo _ _ _ _ _ hp hle2)).mono ?_
        rintro e w4 ⟨rfl, rfl⟩
        go_wp2_with fail
        refine (fields_any _ s2 l n2 _ (meter_drewN hm2 _)).mono ?_
        rintro e w5 ⟨rfl, k2, rfl⟩
        go_wp2_with (go_at_call 21; refine (same_self _ _).mono ?_; rintro e w6 ⟨rfl, rfl⟩)
        go_ret
        exact ⟨rfl, H1.out.trans (below_drewN _ _ _)⟩
    · have hx' : (FloatKind.f64.format.order x x != some .eq) = false := by simp [bne, hx]
      have hy' : (FloatKind.f64.format.order y y != some .eq) = true := by simpa [bne] using hy
      clear hx hy
      go_enter Try.func8, Try.ntmps8
      go_wp2
      go_ret
      exact ⟨rfl, Below.refl _ _⟩
  · have hx' : (FloatKind.f64.format.order x x != some .eq) = true := by simpa [bne] using hx
    clear hx
    go_enter Try.func8, Try.ntmps8
    go_wp2
    go_ret
    exact ⟨rfl, Below.refl _ _⟩

end Go.Proofs.Qxb6602998a
