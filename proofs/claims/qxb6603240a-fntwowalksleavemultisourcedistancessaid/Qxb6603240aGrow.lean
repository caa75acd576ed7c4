/-
  THE WALK OF 'slices.Grow' AT []int32 (after the shelf's Spec/SlicesGrow.lean).
-/
import Derived.Test.Qxb6603240aClone
import Derived.Lib.Walk
import Derived.Lib.AppendZerosOnto
namespace Go.Proofs.Qxb6603240a
open Go.RowKit Go.Lib

/-- A slice's array, all c places of it: numbers of one's own, which may be written. -/
structure Pool (w : World) (G c : Nat) : Prop where
  lt : G < w.heap.size
  cell : ∀ i, i < c → ∃ x : Int, w.cell? ⟨G, i, none⟩ = some (.int .i32 x)
  free : ∀ i, i < c → w.frozen? ⟨G, i, none⟩ = false

set_option maxRecDepth 100000 in
set_option maxHeartbeats 2000000 in
theorem grow_room (base : Option Addr) (c N : Nat) (w : World) (hc63 : c ≤ 9223372036854775807) (hN : N ≤ 1048577) (hroom : N ≤ c) :
    Calls Try.prog 24 #[.slice base 0 c, .int .i64 N] w fun e w' => e = .returned (.slice base 0 c) ∧ w' = w := by
  have h1 : ¬ ((N : Int) < 0) := by omega
  have h4 : ¬ ((0 : Int) < (N : Int) - (c : Int)) := by omega
  go_enter Try.func24, Try.ntmps24
  go_wp2
  go_ret
  exact ⟨rfl, rfl⟩

theorem isI32_zeros (n : Nat) : ∀ v ∈ (Builtin.zeroCells (Value.int .i32 0).cells n).toList, ∃ x : Int, v = .int .i32 x := by
  intro v hv
  simp only [Builtin.zeroCells, Value.cells, Array.toList_map, List.mem_map] at hv
  obtain ⟨i, _, rfl⟩ := hv
  exact ⟨0, by simp [Nat.mod_one]⟩

theorem size_zeros (n : Nat) : (Builtin.zeroCells (Value.int .i32 0).cells n).size = n := by simp [Builtin.zeroCells, Value.cells]

theorem pool_alloc (w : World) (Arr : Array Value) (hint : ∀ v ∈ Arr, ∃ x : Int, v = .int .i32 x) :
    Below w.heap.size w (w.drew.alloc (.cells Arr 21)) ∧ Pool (w.drew.alloc (.cells Arr 21)) w.heap.size Arr.size := by
  have hnb := newBlock_alloc w.drew Arr 21
  refine ⟨(Below.refl _ _).drew.trans hnb.below, ⟨by rw [hnb.size]; exact Nat.lt_succ_self _, fun i hi => ?_, fun i hi => ?_⟩⟩
  · have h1 : (w.drew.alloc (.cells Arr 21)).cell? ⟨w.heap.size, i, none⟩ = Arr[i]? := World.cell?_alloc_at (w := w.drew) Arr 21 w.heap.size i rfl
    rw [h1, Array.getElem?_eq_getElem hi]
    obtain ⟨x, hx⟩ := hint _ (Array.getElem_mem hi)
    exact ⟨x, by rw [hx]⟩
  · have := (hnb.there i hi).2
    simpa using this

set_option maxHeartbeats 1000000 in
/-- The append in Grow, told on a letter. -/
theorem grow_append (base : Option Addr) (c N : Nat) (cs : List Value) (w : World) (hN : N ≤ 1048577) (hno : c < N)
    (hcl : cs.length = c) (hnil : base = none → c = 0) (hcs : ∀ a, base = some a → ∀ j v, cs[j]? = some v → w.cell? (a.add j) = some v) (hint : ∀ v ∈ cs, ∃ x : Int, v = .int .i32 x) :
    ∃ w' G, (∀ ty, (Builtin.append_ #[23, 3] ty #[.slice base c c, .int .i64 ((N : Int) - (c : Int))]).run Try.prog w = .ok (.slice (some ⟨w.heap.size, 0, none⟩) N G) w') ∧ N ≤ G ∧ G ≤ 9223372036854775807 ∧ Below w.heap.size w w' ∧ Pool w' w.heap.size G := by
  obtain ⟨i0, hi0, hz0, hs0, hby0⟩ := info_parts (show (Try.prog.info? 21).map (fun i => (i.zero, i.size, i.bytes)) = some (some (.int .i32 0), 1, 4) from by kernel_rfl)
  have hold : (Builtin.firstCells i0.size c (.slice base c c)).run Try.prog w.drew = .ok cs.toArray w.drew := by
    cases base with
    | none =>
      have h0 := hnil rfl
      subst h0
      have hc0 : cs = [] := List.length_eq_zero_iff.1 hcl
      rw [hc0]
      exact run_firstCells_none w.drew i0.size 0 0 0
    | some a => exact run_firstCells_some w.drew i0.size c a c c cs (by rw [hs0]; omega) (fun j v hj => hcs a rfl j v hj)
  have hck : c + (N - c) = N := by omega
  have hGn : N ≤ grownCap w N c 21 := grownCap_ge w _ _ _
  have hG63 : grownCap w N c 21 ≤ 9223372036854775807 := by
    have := grownCap_le_maxLen w N c 21 (by unfold maxLen; omega)
    unfold maxLen at this
    omega
  have hsz : (cs.toArray ++ Builtin.zeroCells (Value.int .i32 0).cells (N - c) ++ Builtin.zeroCells (Value.int .i32 0).cells (grownCap w N c 21 - N)).size = grownCap w N c 21 := by
    simp only [Array.size_append, size_zeros, List.size_toArray, hcl]; omega
  have hp := pool_alloc w (cs.toArray ++ Builtin.zeroCells (Value.int .i32 0).cells (N - c) ++ Builtin.zeroCells (Value.int .i32 0).cells (grownCap w N c 21 - N)) (fun v hv => by
    rw [Array.mem_append, Array.mem_append] at hv
    rcases hv with (h | h) | h
    · exact hint _ (by simpa using h)
    · exact isI32_zeros _ _ (Array.mem_toList_iff.2 h)
    · exact isI32_zeros _ _ (Array.mem_toList_iff.2 h))
  rw [hsz] at hp
  refine ⟨_, _, fun ty => ?_, hGn, hG63, hp.1, hp.2⟩
  have h := Lib.run_append_grow_zeros w 23 3 ty 21 i0 (.int .i32 0) .i64 .i64 Try.underlying23 Try.underlying3 hi0 hz0 base c c cs hold (N - c) (by omega) (by omega) (by omega) (by omega)
    (by rw [hby0]; omega)
    (by rw [hck]; exact growslice_fits hno (by rw [hby0]; omega))
  rw [hck] at h
  rw [show (N : Int) - (c : Int) = ((N - c : Nat) : Int) by omega]
  exact h

set_option maxRecDepth 100000 in
set_option maxHeartbeats 4000000 in
theorem grow_new (base : Option Addr) (c N : Nat) (cs : List Value) (w : World) (hN : N ≤ 1048577) (hno : c < N)
    (hcl : cs.length = c) (hnil : base = none → c = 0) (hcs : ∀ a, base = some a → ∀ j v, cs[j]? = some v → w.cell? (a.add j) = some v) (hint : ∀ v ∈ cs, ∃ x : Int, v = .int .i32 x) :
    Calls Try.prog 24 #[.slice base 0 c, .int .i64 N] w fun e w' => ∃ G, e = .returned (.slice (some ⟨w.heap.size, 0, none⟩) 0 G) ∧ N ≤ G ∧ G ≤ 9223372036854775807 ∧ Below w.heap.size w w' ∧ Pool w' w.heap.size G := by
  obtain ⟨w1, G, hrz, hGn, hG63, hbl, hpl⟩ := grow_append base c N cs w hN hno hcl hnil hcs hint
  have h1 : ¬ ((N : Int) < 0) := by omega
  have h4 : (0 : Int) < (N : Int) - (c : Int) := by omega
  clear hcs hcl hint
  go_enter Try.func24, Try.ntmps24
  cases base with
  | none =>
    have h0 := hnil rfl
    subst h0
    go_wp2_with (at_builtin; refine Lib.wpList_append_run _ rfl _ _ _ _ rfl _ _ rfl rfl _ _ (hrz _) ?_)
    all_goals (go_ret; exact ⟨G, rfl, hGn, hG63, hbl, hpl⟩)
  | some a =>
    obtain ⟨ab, ao, asp⟩ := a
    go_wp2_with (at_builtin; refine Lib.wpList_append_run _ rfl _ _ _ _ rfl _ _ rfl rfl _ _ (hrz _) ?_)
    all_goals (go_ret; exact ⟨G, rfl, hGn, hG63, hbl, hpl⟩)

end Go.Proofs.Qxb6603240a
