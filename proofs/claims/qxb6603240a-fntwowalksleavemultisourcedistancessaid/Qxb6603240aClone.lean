/-
  THE WALKS OF 'cloneI32' AND 'cloneLinks'.
-/
import Derived.Test.Qxb6603240aMem
namespace Go.Proofs.Qxb6603240a
open Go.RowKit

theorem info21 : (Try.prog.info? 21).map (fun i => (i.size, i.bytes)) = some (1, 4) := by kernel_rfl
theorem zero21 : (Try.prog.info? 21).map (·.zero) = some (some (.int .i32 0)) := by kernel_rfl
theorem info23 : (Try.prog.info? 23).map (fun i => (i.size, i.bytes)) = some (1, 24) := by kernel_rfl
theorem zero23 : (Try.prog.info? 23).map (·.zero) = some (some (.slice none 0 0)) := by kernel_rfl

/-- A block of n numbers of one's own. -/
structure Ints (w : World) (G n : Nat) (X : Nat → Int) : Prop where
  lt : G < w.heap.size
  cell : ∀ i, i < n → w.cell? ⟨G, i, none⟩ = some (.int .i32 (X i))
  free : ∀ i, i < n → w.frozen? ⟨G, i, none⟩ = false

theorem cloneI32_nil (l c : Nat) (w : World) : Calls Try.prog 12 #[.slice none l c] w fun e w' => e = .returned (.slice none 0 0) ∧ w' = w := by
  have he := fun w => Lib.run_eql_slice_nil (P := Try.prog) w 23 21 none l c 0 0 Try.underlying23
  go_enter Try.func12, Try.ntmps12
  go_wp2
  go_ret
  exact ⟨rfl, rfl⟩

set_option maxHeartbeats 1000000 in
theorem cloneI32_some (ad : Addr) (n c : Nat) (X : Nat → Int) (w : World) (hn : n ≤ 1048576) (hA : RowAt w.heap.size w (some ad) n X) :
    Calls Try.prog 12 #[.slice (some ad) n c] w fun e w' => e = .returned (.slice (some ⟨w.heap.size, 0, none⟩) n n) ∧ Below w.heap.size w w' ∧ w'.heap.size = w.heap.size + 1 ∧ Ints w' w.heap.size n X := by
  have he := fun w => Lib.run_eql_slice_nil (P := Try.prog) w 23 21 (some ad) n c 0 0 Try.underlying23
  go_enter Try.func12, Try.ntmps12
  go_wp2_with (refine wpList_make_new rfl 23 21 _ rfl Try.underlying23 (.int .i32 0) zero21 1 4 info21 n rfl (by omega) (by omega) ?_; intro w1 hw1)
  go_loopw [4] (fun i wr => ∃ k : Nat, k ≤ n ∧ i = .int .i64 k ∧ Below w.heap.size w wr ∧ wr.heap.size = w.heap.size + 1 ∧ wr.there w.heap.size 0 n ∧ ∀ i, i < k → wr.cell? ⟨w.heap.size, i, none⟩ = some (.int .i32 (X i))) (fun i _ => n - (intOf i).toNat)
  case atStart => exact ⟨0, Nat.zero_le _, rfl, hw1.below, hw1.size, by simpa using hw1.there, fun i hi => absurd hi (Nat.not_lt_zero _)⟩
  case round =>
    obtain ⟨k, hk, rfl, hb, hsz, hth, hdone⟩ := hrel
    have HD : Hid (∀ i, i < k → wr.cell? ⟨w.heap.size, i, none⟩ = some (.int .i32 (X i))) := hdone
    clear hdone
    by_cases hlt : k < n
    · obtain ⟨b, off, hab, hbB, hc⟩ := hA k hlt
      have hadd : ad = ⟨b, off, none⟩ := Option.some.inj hab
      subst hadd
      have hc' := (hb.cell (p := ⟨b, off + k, none⟩) hbB).trans hc
      obtain ⟨u, hu⟩ := Option.isSome_iff_exists.1 (hth k hlt).1
      have hf := (hth k hlt).2
      simp only [Nat.zero_add] at hu hf
      have hI : (k : Int) < (n : Int) := by omega
      have HTH : Hid (wr.there w.heap.size 0 n) := hth
      clear hA hc hth hw1 hab
      go_wp2
      go_roundw
      case rel =>
        refine ⟨k + 1, by omega, by go_num, hb.setCell (p := ⟨w.heap.size, k, none⟩) (Nat.le_refl _) _, by simpa using hsz, ?_, ?_⟩
        · have := World.there_setCells HTH.out w.heap.size k [Value.int .i32 (X k)]
          simpa [World.setCells] using this
        · intro i hi
          by_cases e : i = k
          · subst e; exact World.cell?_setCell_same _ _ _ hu
          · rw [World.cell?_setCell_other _ _ _ _ (by intro h; simp at h <;> omega)]
            exact HD.out i (by omega)
      case measure => simp [intOf]; omega
    · go_wp2
      go_ret
      refine ⟨rfl, hb, hsz, by omega, fun i hi => HD.out i (by omega), fun i hi => ?_⟩
      have := (hth i hi).2
      simpa using this

/-- What a clone of a row is: nil where it was nil; else new. -/
def CloneOf (w w' : World) (n : Nat) (X : Nat → Int) (e : Ending) : Prop :=
  ∃ A C, e = .returned (.slice A n C) ∧ Below w.heap.size w w' ∧ RowAt w'.heap.size w' A n X ∧ (A = none ∨ A = some ⟨w.heap.size, 0, none⟩)

theorem cloneI32_row (A : Option Addr) (n c : Nat) (X : Nat → Int) (w : World) (hn : n ≤ 1048576) (hA : RowAt w.heap.size w A n X) : Calls Try.prog 12 #[.slice A n c] w fun e w' => CloneOf w w' n X e := by
  cases A with
  | none =>
    have h0 : n = 0 := by
      rcases Nat.eq_zero_or_pos n with h | h
      · exact h
      · obtain ⟨_, _, h1, _⟩ := hA 0 h; cases h1
    subst h0
    exact (cloneI32_nil 0 c w).mono fun e w' ⟨h1, h2⟩ => by subst h2; exact ⟨none, 0, h1, Below.refl _ _, fun j hj => absurd hj (Nat.not_lt_zero _), .inl rfl⟩
  | some ad =>
    exact (cloneI32_some ad n c X w hn hA).mono fun e w' ⟨h1, h2, h3, h4⟩ => ⟨_, _, h1, h2, fun j hj => ⟨w.heap.size, 0, rfl, h4.lt, by rw [Nat.zero_add]; exact h4.cell j hj⟩, .inr rfl⟩

/-- Rows 0 .. k-1 are there, each in a block of its own or nil. -/
def RowsTo (wr : World) (G k : Nat) (ll : Nat → Nat) (Z : Nat → Nat → Int) : Prop :=
  ∀ i, i < k → ∃ A C, wr.cell? ⟨G, i, none⟩ = some (.slice A (ll i) C) ∧ ∀ j, j < ll i → ∃ b off, A = some ⟨b, off, none⟩ ∧ b < wr.heap.size ∧ b ≠ G ∧ wr.cell? ⟨b, off + j, none⟩ = some (.int .i32 (Z i j))

theorem RowsTo.later {wr w2 : World} {G k : Nat} {ll : Nat → Nat} {Z : Nat → Nat → Int} (h : RowsTo wr G k ll Z) (hG : G < wr.heap.size) (hb : Below wr.heap.size wr w2) : RowsTo w2 G k ll Z := fun i hi => by
  obtain ⟨A, C, h1, h2⟩ := h i hi
  refine ⟨A, C, (hb.cell (p := ⟨G, i, none⟩) hG).trans h1, fun j hj => ?_⟩
  obtain ⟨b, off, h3, h4, h5, h6⟩ := h2 j hj
  exact ⟨b, off, h3, Nat.lt_of_lt_of_le h4 hb.size, h5, (hb.cell (p := ⟨b, off + j, none⟩) h4).trans h6⟩

theorem RowsTo.store {wr : World} {G k : Nat} {ll : Nat → Nat} {Z : Nat → Nat → Int} {A : Option Addr} {C : Nat} {u : Value} (h : RowsTo wr G k ll Z) (hu : wr.cell? ⟨G, k, none⟩ = some u)
    (hrow : ∀ j, j < ll k → ∃ b off, A = some ⟨b, off, none⟩ ∧ b < wr.heap.size ∧ b ≠ G ∧ wr.cell? ⟨b, off + j, none⟩ = some (.int .i32 (Z k j))) :
    RowsTo (wr.setCell ⟨G, k, none⟩ (.slice A (ll k) C)) G (k + 1) ll Z := fun i hi => by
  have hsz : (wr.setCell ⟨G, k, none⟩ (.slice A (ll k) C)).heap.size = wr.heap.size := by simp [World.setCell]
  by_cases e : i = k
  · subst e
    refine ⟨A, C, World.cell?_setCell_same _ _ _ hu, fun j hj => ?_⟩
    obtain ⟨b, off, h3, h4, h5, h6⟩ := hrow j hj
    exact ⟨b, off, h3, by rw [hsz]; exact h4, h5, by rw [World.cell?_setCell_other _ _ _ _ (by intro h; simp at h <;> omega)]; exact h6⟩
  · obtain ⟨A', C', h1, h2⟩ := h i (by omega)
    refine ⟨A', C', by rw [World.cell?_setCell_other _ _ _ _ (by intro h; simp at h <;> omega)]; exact h1, fun j hj => ?_⟩
    obtain ⟨b, off, h3, h4, h5, h6⟩ := h2 j hj
    exact ⟨b, off, h3, by rw [hsz]; exact h4, h5, by rw [World.cell?_setCell_other _ _ _ _ (by intro h; simp at h <;> omega)]; exact h6⟩

set_option maxHeartbeats 1000000 in
theorem cloneLinks_any (ad : Addr) (n c : Nat) (ll : Nat → Nat) (Z : Nat → Nat → Int) (w : World) (hn : n ≤ 1048576) (hll : ∀ i, i < n → ll i ≤ 1048576) (hA : LinksAt w.heap.size w (some ad) n ll Z) :
    Calls Try.prog 11 #[.slice (some ad) n c] w fun e w' => e = .returned (.slice (some ⟨w.heap.size, 0, none⟩) n n) ∧ Below w.heap.size w w' ∧ LinksAt w'.heap.size w' (some ⟨w.heap.size, 0, none⟩) n ll Z := by
  have he := fun w => Lib.run_eql_slice_nil (P := Try.prog) w 22 23 (some ad) n c 0 0 Try.underlying22
  go_enter Try.func11, Try.ntmps11
  go_wp2_with (refine wpList_make_new rfl 22 23 _ rfl Try.underlying22 (.slice none 0 0) zero23 1 24 info23 n rfl (by omega) (by omega) ?_; intro w1 hw1)
  go_loopw [4] (fun i wr => ∃ k : Nat, k ≤ n ∧ i = .int .i64 k ∧ Below w.heap.size w wr ∧ w.heap.size < wr.heap.size ∧ wr.there w.heap.size 0 n ∧ RowsTo wr w.heap.size k ll Z) (fun i _ => n - (intOf i).toNat)
  case atStart => exact ⟨0, Nat.zero_le _, rfl, hw1.below, by rw [hw1.size]; omega, by simpa using hw1.there, fun i hi => absurd hi (Nat.not_lt_zero _)⟩
  case round =>
    obtain ⟨k, hk, rfl, hb, hsz, hth, hdone⟩ := hrel
    by_cases hlt : k < n
    · obtain ⟨b, off, A, C, hab, hbB, hc, hrow⟩ := hA k hlt
      have hadd : ad = ⟨b, off, none⟩ := Option.some.inj hab
      subst hadd
      have hc' := (hb.cell (p := ⟨b, off + k, none⟩) hbB).trans hc
      have hlk := hll k hlt
      have hrow' : RowAt wr.heap.size wr A (ll k) (Z k) := fun j hj => by
        obtain ⟨b', off', h1, h2, h3⟩ := hrow j hj
        exact ⟨b', off', h1, Nat.lt_of_lt_of_le h2 hb.size, (hb.cell (p := ⟨b', off' + j, none⟩) h2).trans h3⟩
      have hI : (k : Int) < (n : Int) := by omega
      clear hA hc hw1 hab hrow hll
      go_wp2_with fail
      refine (cloneI32_row A (ll k) C (Z k) _ hlk hrow').mono ?_
      rintro e w2 ⟨A2, C2, rfl, hb2, hr2, hA2⟩
      have hd2 := hdone.later hsz hb2
      obtain ⟨u, hu⟩ := Option.isSome_iff_exists.1 (hth k hlt).1
      have hf := (hth k hlt).2
      simp only [Nat.zero_add] at hu hf
      have hu2 := (hb2.cell (p := ⟨w.heap.size, k, none⟩) hsz).trans hu
      have hf2 := (hb2.frozen (p := ⟨w.heap.size, k, none⟩) hsz).trans hf
      have hth2 : w2.there w.heap.size 0 n := fun j hj => by rw [hb2.cell (p := ⟨w.heap.size, 0 + j, none⟩) hsz, hb2.frozen (p := ⟨w.heap.size, 0 + j, none⟩) hsz]; exact hth j hj
      have hbw2 : Below w.heap.size w w2 := hb.trans (hb2.mono (Nat.le_of_lt hsz))
      have hs2 : w.heap.size < w2.heap.size := Nat.lt_of_lt_of_le hsz hb2.size
      have hrow2 : ∀ j, j < ll k → ∃ b off, A2 = some ⟨b, off, none⟩ ∧ b < w2.heap.size ∧ b ≠ w.heap.size ∧ w2.cell? ⟨b, off + j, none⟩ = some (.int .i32 (Z k j)) := fun j hj => by
        obtain ⟨b', off', h1, h2, h3⟩ := hr2 j hj
        refine ⟨b', off', h1, h2, ?_, h3⟩
        rcases hA2 with h | h
        · rw [h] at h1; cases h1
        · rw [h] at h1
          have := congrArg Addr.block (Option.some.inj h1)
          simp only at this
          omega
      have HR : Hid (RowsTo (w2.setCell ⟨w.heap.size, k, none⟩ (.slice A2 (ll k) C2)) w.heap.size (k + 1) ll Z) := hd2.store hu2 hrow2
      have HTH : Hid (w2.there w.heap.size 0 n) := hth2
      clear hth hth2 hdone hd2 hrow2 hr2 hb2 hu hf hA2 hc' hrow' hb
      go_wp2
      go_roundw
      case rel =>
        refine ⟨k + 1, by omega, by go_num, hbw2.setCell (p := ⟨w.heap.size, k, none⟩) (Nat.le_refl _) _, by simpa [World.setCell] using hs2, ?_, HR.out⟩
        have := World.there_setCells HTH.out w.heap.size k [Value.slice A2 (ll k) C2]
        simpa [World.setCells] using this
      case measure => simp [intOf]; omega
    · go_wp2
      go_ret
      refine ⟨rfl, hb, fun i hi => ?_⟩
      obtain ⟨A, C, h1, h2⟩ := hdone i (by omega)
      refine ⟨w.heap.size, 0, A, C, rfl, hsz, by rw [Nat.zero_add]; exact h1, fun j hj => ?_⟩
      obtain ⟨b', off', h3, h4, _, h6⟩ := h2 j hj
      exact ⟨b', off', h3, h4, h6⟩

end Go.Proofs.Qxb6603240a
