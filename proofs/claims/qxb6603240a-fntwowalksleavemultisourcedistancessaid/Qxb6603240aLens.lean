/-
  THE LENGTH BOUND, with what a 'true' tells.
-/
import Derived.Test.Qxb6603240aMem
namespace Go.Proofs.Qxb6603240a
open Go.RowKit

/-- No length is beyond 1 << 20. -/
def Small (n l1 l3 : Nat) (ll : Nat → Nat) : Prop := n ≤ 1048576 ∧ l1 ≤ 1048576 ∧ l3 ≤ 1048576 ∧ ∀ i, i < n → ll i ≤ 1048576

set_option maxHeartbeats 2000000 in
theorem bytes_all (B : Nat) (a0 a1 a3 : Option Addr) (n l1 l3 c0 c1 c3 : Nat) (k2 k4 k5 : Int) (ll : Nat → Nat) (Z : Nat → Nat → Int) (w : World) (hA : LinksAt B w a0 n ll Z) (hll : ∀ i, i < n → ll i ≤ maxLen) (h0 : n ≤ maxLen) (h1 : l1 ≤ maxLen) (h3 : l3 ≤ maxLen) :
    Calls Try.prog 17 #[.slice a0 n c0, .slice a1 l1 c1, .int .i32 k2, .slice a3 l3 c3, .int .i32 k4, .int .i32 k5] w fun e w' => SaidSo (Small n l1 l3 ll) e ∧ w' = w := by
  unfold maxLen at *
  by_cases hl0 : (1048576 : Int) < n
  · go_enter Try.func17, Try.ntmps17
    go_wp2
    go_ret
    exact ⟨⟨_, rfl, fun h => by cases h⟩, rfl⟩
  go_enter Try.func17, Try.ntmps17
  go_wp2
  go_loop [13, 14] (fun z i => ∃ k q : Nat, k ≤ n ∧ i = .int .i64 k ∧ z = .int .i64 q ∧ q ≤ 1048576 ∧ ∀ x, x < k → ll x ≤ 1048576) (fun _ i => n - (intOf i).toNat)
  case atStart => exact ⟨0, n, Nat.zero_le _, rfl, rfl, by omega, fun x hx => absurd hx (Nat.not_lt_zero _)⟩
  case round =>
    obtain ⟨k, q, hk, rfl, rfl, hq, hdone⟩ := hrel
    have HD : Hid (∀ x, x < k → ll x ≤ 1048576) := hdone
    clear hdone
    by_cases hlt : k < n
    · obtain ⟨b, off, A, C, rfl, hbB, hc, _⟩ := hA k hlt
      have hlk := hll k hlt
      have hI : (k : Int) < (n : Int) := by omega
      clear hA hll
      by_cases hz : (1048576 : Int) < (ll k : Int)
      · go_wp2
        go_ret
        exact ⟨⟨_, rfl, fun h => by cases h⟩, rfl⟩
      · by_cases hz2 : (1048576 : Int) < (q : Int) + (ll k : Int)
        · go_wp2
          go_ret
          exact ⟨⟨_, rfl, fun h => by cases h⟩, rfl⟩
        · go_wp2
          go_round
          case rel =>
            refine ⟨k + 1, q + ll k, by omega, by go_num, by go_num, by omega, fun x hx => ?_⟩
            by_cases e : x = k
            · subst e; omega
            · exact HD.out x (by omega)
          case measure => simp [intOf]; omega
    · clear hA hll
      by_cases g1 : (1048576 : Int) < (l1 : Int)
      · go_wp2
        go_ret
        exact ⟨⟨_, rfl, fun h => by cases h⟩, rfl⟩
      by_cases g3 : (1048576 : Int) < (l3 : Int)
      · go_wp2
        all_goals
          go_ret
          exact ⟨⟨_, rfl, fun h => by cases h⟩, rfl⟩
      go_wp2
      all_goals
        go_ret
        refine ⟨⟨_, rfl, fun h => ?_⟩, rfl⟩
        first
        | exact absurd h Bool.false_ne_true
        | exact ⟨by omega, by omega, by omega, fun i hi => HD.out i (by omega)⟩

end Go.Proofs.Qxb6603240a
