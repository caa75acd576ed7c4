/-
  THE STATEMENT 'Rows.FnTwoWalksLeaveMultiSourceDistancesSaid', PROVED: the opening of the arguments, the row's step.
-/
import Derived.Test.Qxb6603240aRows
import Derived.Test.Qxb6603240aLaw
import Derived.ProofKit
import Derived.OpenShut
import Derived.Deep.Slices
namespace Go.Proofs.Qxb6603240a
open Go.ChangeShapes Go.WideShapes Go.ChangeAt Go.RowKit

section
variable {H : Type} {enc : TypeId × Value → H} {W : World} {base : Nat} {spare : Nat → Bool} {held : Bool}

theorem open_row {fuel : Nat} {cs : List Value} {x : DataW H × List MemPlace} (h : DataW.trod enc Try.prog W base spare held fuel 23 cs = some x) :
    ∃ a len cap X, cs = [.slice a len cap] ∧ len ≤ maxLen ∧ RowAt W.heap.size W a len X ∧ Fits len X := by
  rcases Deep.open_slice1 Try.underlying23 (by kernel_rfl) h with ⟨hcs, _⟩ | ⟨ad, len, cap, m, n, V, D, Pl, hcs, _, hl, hm, hmm, _, hx⟩
  · exact ⟨none, 0, 0, fun _ => 0, hcs, Nat.zero_le _, fun i hi => absurd hi (Nat.not_lt_zero _), fun i hi => absurd hi (Nat.not_lt_zero _)⟩
  · have hlm : len ≤ m := by rw [hmm]; split <;> omega
    have key : ∀ i, i < len → ∃ t : Int, (∃ b off, some ad = some (⟨b, off, none⟩ : Addr) ∧ b < W.heap.size ∧ W.cell? ⟨b, off + i, none⟩ = some (.int .i32 t)) ∧ -2147483648 ≤ t ∧ t ≤ 2147483647 := by
      intro i hi
      obtain ⟨h1, h2⟩ := hx i (by omega)
      obtain ⟨t, ht, _, hw⟩ := DataW.trod_int Try.underlying21 h2
      have e := (List.cons.inj ht).1
      rw [e] at h1
      have hspot : ad.spot = none := by
        have := World.cell?_spot (hx 0 (by omega)).1
        simpa [Addr.add] using this
      obtain ⟨b, off, spot⟩ := ad
      simp only at hspot
      subst hspot
      rw [add_plain] at h1
      exact ⟨t, ⟨b, off, rfl, block_lt_of_cell h1, h1⟩, bounds_i32 hw⟩
    obtain ⟨X, hX⟩ := Deep.choose_lt key
    exact ⟨some ad, len, cap, X, hcs, Nat.le_trans hl hm, fun i hi => (hX i hi).1, fun i hi => (hX i hi).2⟩

theorem open_links {fuel len cap : Nat} {a : Option Addr} {x : DataW H × List MemPlace} (h : DataW.trod enc Try.prog W base spare held fuel 22 [.slice a len cap] = some x) :
    len ≤ maxLen ∧ ∃ ll Z, LinksAt W.heap.size W a len ll Z ∧ (∀ i, i < len → ll i ≤ maxLen) ∧ ∀ i j, i < len → j < ll i → -2147483648 ≤ Z i j ∧ Z i j ≤ 2147483647 := by
  rcases Deep.open_slice1 Try.underlying22 (by kernel_rfl) h with ⟨hcs, _⟩ | ⟨ad, len', cap', m, n, V, D, Pl, hcs, _, hl, hm, hmm, _, hx⟩
  · simp at hcs
    obtain ⟨rfl, rfl, rfl⟩ := hcs
    exact ⟨Nat.zero_le _, fun _ => 0, fun _ _ => 0, fun i hi => absurd hi (Nat.not_lt_zero _), fun i hi => absurd hi (Nat.not_lt_zero _), fun i j hi => absurd hi (Nat.not_lt_zero _)⟩
  · simp at hcs
    obtain ⟨rfl, rfl, rfl⟩ := hcs
    refine ⟨Nat.le_trans hl hm, ?_⟩
    have hlm : len ≤ m := by rw [hmm]; split <;> omega
    have key : ∀ i, i < len → ∃ t : Nat × (Nat → Int), (∃ b off A C, some ad = some (⟨b, off, none⟩ : Addr) ∧ b < W.heap.size ∧ W.cell? ⟨b, off + i, none⟩ = some (.slice A t.1 C) ∧ RowAt W.heap.size W A t.1 t.2) ∧ t.1 ≤ maxLen ∧ Fits t.1 t.2 := by
      intro i hi
      obtain ⟨h1, h2⟩ := hx i (by omega)
      obtain ⟨A, l, C, X, hcs, hl', hr, hf⟩ := open_row h2
      have e := (List.cons.inj hcs).1
      rw [e] at h1
      have hspot : ad.spot = none := by
        have := World.cell?_spot (hx 0 (by omega)).1
        simpa [Addr.add] using this
      obtain ⟨b, off, spot⟩ := ad
      simp only at hspot
      subst hspot
      rw [add_plain] at h1
      exact ⟨(l, X), ⟨b, off, A, C, rfl, block_lt_of_cell h1, h1, hr⟩, hl', hf⟩
    obtain ⟨F, hF⟩ := Deep.choose_lt key
    exact ⟨fun i => (F i).1, fun i => (F i).2, fun i hi => (hF i hi).1, fun i hi => (hF i hi).2.1, fun i j hi hj => (hF i hi).2.2 j hj⟩
end

theorem own : ownKnob Try.prog.godebug = none := by kernel_rfl
theorem laidOut : laidOutB Try.prog = true := by kernel_rfl

set_option maxRecDepth 100000 in
theorem lifted (os : Os) (started : os.Started) (H : Type) (enc : TypeId × Value → H) :
    ReturnsInHanded {} Try.checked os 5 .any (Rows.fnTwoWalksLeaveMultiSourceDistancesSpec.pre6 enc Try.prog Try.f5 Rows.fnTwoWalksLeaveMultiSourceDistancesRow.domain false) (Rows.fnTwoWalksLeaveMultiSourceDistancesSpec.post enc Try.prog Try.f5 false true false false) := by
  refine returnsInHanded_of_change (C := Try.checked) own started (by kernel_rfl) Try.func5
    (ChangeSpec.witness6 (enc := enc) (C := Try.checked) false ⟨#[], #[.slice none 0 0, .slice none 0 0, .int .i32 0, .slice none 0 0, .int .i32 0, .int .i32 0], []⟩ 8 (by kernel_rfl) (by kernel_rfl) (by kernel_rfl) (by kernel_rfl)) ?_
  intro W base args ds gs before hval0 hW hcnd _
  have hval : ∀ (j : Nat) t v, Try.f5.params[j]? = some t → args[j]? = some v → Value.okWide Try.prog W .any base t v := hval0
  have hW' := hW
  obtain ⟨p, q, hA0, hV, rfl, hfz, hnd⟩ := hW
  have hA : DataW.TrodAll enc Try.prog W 0 (fun _ => true) true Try.f5.params.toList args.toList ds p := hA0
  rw [Try.params5] at hA hval
  obtain ⟨v0, vs0, d0, ds0, p0, q0, hargs, rfl, rfl, h0, r0⟩ := trodAll_cons hA
  obtain ⟨v1, vs1, d1, ds1, p1, q1, rfl, rfl, rfl, h1, r1⟩ := trodAll_cons r0
  obtain ⟨v2, vs2, d2, ds2, p2, q2, rfl, rfl, rfl, h2, r2⟩ := trodAll_cons r1
  obtain ⟨v3, vs3, d3, ds3, p3, q3, rfl, rfl, rfl, h3, r3⟩ := trodAll_cons r2
  obtain ⟨v4, vs4, d4, ds4, p4, q4, rfl, rfl, rfl, h4, r4⟩ := trodAll_cons r3
  obtain ⟨v5, vs5, d5, ds5, p5, q5, rfl, rfl, rfl, h5, r5⟩ := trodAll_cons r4
  obtain ⟨rfl, rfl, rfl⟩ := trodAll_nil r5
  obtain rfl : args = #[v0, v1, v2, v3, v4, v5] := by cases args; simp_all
  obtain ⟨rfl, rfl⟩ := trodVars_none hV
  obtain ⟨a0, l0, c0, rfl⟩ := okWide_slice Try.underlying22 (hval 0 22 v0 rfl rfl)
  obtain ⟨a1, l1, c1, rfl⟩ := okWide_slice Try.underlying23 (hval 1 23 v1 rfl rfl)
  obtain ⟨a3, l3, c3, rfl⟩ := okWide_slice Try.underlying23 (hval 3 23 v3 rfl rfl)
  have k0 := h0
  have k1 := h1
  have k3 := h3
  have lt0 : ∀ x ∈ p0, x.block < W.heap.size := by obtain ⟨m, hm⟩ := k0; exact DataW.trod_lt m _ _ _ hm
  have lt1 : ∀ x ∈ p1, x.block < W.heap.size := by obtain ⟨m, hm⟩ := k1; exact DataW.trod_lt m _ _ _ hm
  have lt3 : ∀ x ∈ p3, x.block < W.heap.size := by obtain ⟨m, hm⟩ := k3; exact DataW.trod_lt m _ _ _ hm
  obtain ⟨m0, ll, Z, z0, y0, x0⟩ : l0 ≤ maxLen ∧ ∃ ll Z, LinksAt W.heap.size W a0 l0 ll Z ∧ (∀ i, i < l0 → ll i ≤ maxLen) ∧ ∀ i j, i < l0 → j < ll i → -2147483648 ≤ Z i j ∧ Z i j ≤ 2147483647 := by obtain ⟨fuel, hf⟩ := h0; exact open_links (by simpa [Value.cells] using hf)
  have row : ∀ {a l c}, (∃ a' l' c' X, [Value.slice a l c] = [.slice a' l' c'] ∧ l' ≤ maxLen ∧ RowAt W.heap.size W a' l' X ∧ Fits l' X) → l ≤ maxLen ∧ ∃ X, RowAt W.heap.size W a l X ∧ Fits l X := by
    rintro a l c ⟨a', l', c', X, e, h1, h2, h3⟩
    simp at e
    obtain ⟨rfl, rfl, rfl⟩ := e
    exact ⟨h1, X, h2, h3⟩
  obtain ⟨m1, X1, z1, y1⟩ : l1 ≤ maxLen ∧ ∃ X, RowAt W.heap.size W a1 l1 X ∧ Fits l1 X := by obtain ⟨fuel, hf⟩ := h1; exact row (c := c1) (open_row (by simpa [Value.cells] using hf))
  obtain ⟨m3, X3, z3, y3⟩ : l3 ≤ maxLen ∧ ∃ X, RowAt W.heap.size W a3 l3 X ∧ Fits l3 X := by obtain ⟨fuel, hf⟩ := h3; exact row (c := c3) (open_row (by simpa [Value.cells] using hf))
  obtain ⟨lift, rfl, rfl, rfl, w2⟩ := open_int Try.underlying21 (hval 2 21 v2 rfl rfl) h2
  obtain ⟨a, rfl, rfl, rfl, w4⟩ := open_int Try.underlying21 (hval 4 21 v4 rfl rfl) h4
  obtain ⟨b, rfl, rfl, rfl, w5⟩ := open_int Try.underlying21 (hval 5 21 v5 rfl rfl) h5
  clear hA0 hval0
  have ha := bounds_i32 w4
  have hb := bounds_i32 w5
  refine (law_any a0 a1 a3 l0 l1 l3 c0 c1 c3 lift a b ll Z X1 X3 W z0 y0 x0 z1 y1 z3 m0 m1 m3 ha.1 ha.2 hb.1 hb.2).mono fun e W' ⟨he, bel⟩ => ?_
  subst he
  exact ⟨_, rfl, _, _, _, [], _, [], hW', trodAll_mk1 (shut_bool Try.underlying4 _), (trodAll_cons_mk (Below.trod laidOut (by kernel_rfl) (of_decide_eq_true (by kernel_rfl)) k0 bel lt0) (trodAll_cons_mk (Below.trod laidOut (by kernel_rfl) (of_decide_eq_true (by kernel_rfl)) k1 bel lt1) (trodAll_cons_mk (shut_int Try.underlying21 w2) (trodAll_cons_mk (Below.trod laidOut (by kernel_rfl) (of_decide_eq_true (by kernel_rfl)) k3 bel lt3) (trodAll_cons_mk (shut_int Try.underlying21 w4) (trodAll_cons_mk (shut_int Try.underlying21 w5) trodAll_mk0)))))), rfl, bel.frame _, fun h => by cases h⟩

theorem over : Rows.fnTwoWalksLeaveMultiSourceDistancesRow.holds Try.pinned (OpenSpec.ofChange Rows.fnTwoWalksLeaveMultiSourceDistancesSpec) :=
  OpenClaim.holds_of_wide 5 Try.f5 rfl rfl rfl rfl rfl rfl rfl ⟨rfl, rfl, rfl, rfl, rfl⟩ rfl rfl rfl rfl rfl (by kernel_rfl) Try.func5 (by kernel_rfl)
    (of_decide_eq_true (by kernel_rfl)) (by unfold Func.isWrapper; first | (rw [if_pos (by decide +kernel)]; kernel_rfl) | (rw [if_neg (by decide +kernel)]; exact ⟨rfl, rfl⟩))
    (fun os started H enc _ => lifted os started H enc)

/-- ████ THE STATEMENT ████ -/
theorem twoWalks_proved : Rows.FnTwoWalksLeaveMultiSourceDistancesSaid := over
#print axioms twoWalks_proved
end Go.Proofs.Qxb6603240a
