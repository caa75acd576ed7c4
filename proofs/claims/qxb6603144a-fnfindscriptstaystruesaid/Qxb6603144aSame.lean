/-
  THE WALKS OF 'b1SameBytes' AND 'b1Search'.
-/
import Derived.Test.Qxb6603144aHash
namespace Go.Proofs.Qxb6603144a
open Go.RowKit

theorem bytes_ext {a b : ByteArray} (hs : a.size = b.size) (h : ∀ j (h1 : j < a.size) (h2 : j < b.size), a[j] = b[j]) : a = b := by
  obtain ⟨⟨x⟩⟩ := a
  obtain ⟨⟨y⟩⟩ := b
  congr 2
  apply List.ext_getElem
  · exact hs
  · intro i h1 h2
    exact h i h1 h2

set_option maxHeartbeats 1000000 in
theorem same_any (a b : ByteArray) (w : World) (ha : a.size ≤ 1048576) (hb : b.size ≤ 1048576) :
    Calls Try.prog 10 #[.string a, .string b] w fun e w' => e = .returned (.bool (decide (a = b))) ∧ ∃ k, w' = w.drewN k := by
  by_cases hs : a.size = b.size
  · have hsI : ((a.size : Int) != (b.size : Int)) = false := by simp [hs]
    have HS : Hid (a.size = b.size) := hs
    have hs2 : b.size ≤ a.size := by omega
    clear hs
    go_enter Try.func10, Try.ntmps10
    go_wp2
    go_loopw [5] (fun i wr => ∃ k q : Nat, k ≤ a.size ∧ i = .int .i64 k ∧ wr = w.drewN q ∧ ∀ j (h1 : j < a.size) (h2 : j < b.size), j < k → a[j] = b[j]) (fun i _ => a.size - (intOf i).toNat)
    case atStart => exact ⟨0, 0, Nat.zero_le _, rfl, rfl, fun j _ _ hj => absurd hj (Nat.not_lt_zero _)⟩
    case round =>
      obtain ⟨k, q, hk, rfl, rfl, hall⟩ := hrel
      have HA : Hid (∀ j (h1 : j < a.size) (h2 : j < b.size), j < k → a[j] = b[j]) := hall
      clear hall
      by_cases hlt : k < a.size
      · have hltb : k < b.size := by have := HS.out; omega
        have hI : (k : Int) < (a.size : Int) := by omega
        have hIb : (k : Int) < (b.size : Int) := by omega
        by_cases hq : a[k] = b[k]
        · have hqI : ((a[k].toNat : Int) != (b[k].toNat : Int)) = false := by simp [hq]
          have HQ : Hid (a[k] = b[k]) := hq
          clear hq
          go_wp2
          go_quiet (fail)
          go_wp2
          go_roundw
          case rel =>
            refine ⟨k + 1, _, by omega, by go_num, rfl, fun j h1 h2 hj => ?_⟩
            by_cases e : j = k
            · subst e; exact HQ.out
            · exact HA.out j h1 h2 (by omega)
          case measure => simp [intOf]; omega
        · have hqI : ((a[k].toNat : Int) != (b[k].toNat : Int)) = true := by
            rw [bne_iff_ne]
            intro h
            exact hq (UInt8.toNat_inj.1 (by omega))
          have HN : Hid (¬ a = b) := fun h => hq (by subst h; rfl)
          clear hq
          go_wp2
          go_quiet (fail)
          go_wp2
          go_ret
          exact ⟨congrArg (fun x => Ending.returned (Value.bool x)) (decide_eq_false HN.out).symm, q + nq, by rw [World.drewN_drewN]⟩
      · have HE : Hid (a = b) := bytes_ext HS.out (fun j h1 h2 => HA.out j h1 h2 (by omega))
        go_wp2
        go_ret
        exact ⟨congrArg (fun x => Ending.returned (Value.bool x)) (decide_eq_true HE.out).symm, _, rfl⟩
  · have hsI : ((a.size : Int) != (b.size : Int)) = true := by rw [bne_iff_ne]; omega
    have HN : Hid (¬ a = b) := fun h => hs (by rw [h])
    clear hs
    go_enter Try.func10, Try.ntmps10
    go_wp2
    go_ret
    exact ⟨congrArg (fun x => Ending.returned (Value.bool x)) (decide_eq_false HN.out).symm, 0, rfl⟩

/-- The strings of a slice that came in, as every later world shows them. -/
def StrsAt (B : Nat) (w : World) (a : Option Addr) (n : Nat) (E : Nat → ByteArray) : Prop := ∀ i, i < n → ∃ b off, a = some ⟨b, off, none⟩ ∧ b < B ∧ w.cell? ⟨b, off + i, none⟩ = some (.string (E i))

theorem StrsAt.later {B n : Nat} {w w' : World} {a : Option Addr} {E : Nat → ByteArray} (h : StrsAt B w a n E) (hb : Below B w w') : StrsAt B w' a n E := fun i hi => by
  obtain ⟨b, off, h1, h2, h3⟩ := h i hi
  exact ⟨b, off, h1, h2, (hb.cell (p := ⟨b, off + i, none⟩) h2).trans h3⟩

theorem below_drewN (B : Nat) (w : World) (k : Nat) : Below B w (w.drewN k) := ⟨rfl, rfl, rfl, Nat.le_refl _, fun _ _ => rfl⟩

/-- What the linear scan answers. -/
def Scan (n : Nat) (E : Nat → ByteArray) (s : ByteArray) (e : Ending) : Prop :=
  (∃ i, i < n ∧ E i = s ∧ e = .returned (.tuple #[.int .u64 (i : Nat), .bool true])) ∨ ((∀ i, i < n → E i ≠ s) ∧ e = .returned (.tuple #[.int .u64 0, .bool false]))

set_option maxHeartbeats 1000000 in
theorem search_any (B : Nat) (a : Option Addr) (n c : Nat) (E : Nat → ByteArray) (s : ByteArray) (w : World) (hn : n ≤ 4096) (hA : StrsAt B w a n E) (hE : ∀ i, i < n → (E i).size ≤ 1048576) (hs : s.size ≤ 1048576) :
    Calls Try.prog 18 #[.slice a n c, .string s] w fun e w' => Scan n E s e ∧ ∃ k, w' = w.drewN k := by
  go_enter Try.func18, Try.ntmps18
  go_wp2
  go_loopw [6] (fun i wr => ∃ k q : Nat, k ≤ n ∧ i = .int .i64 k ∧ wr = w.drewN q ∧ ∀ j, j < k → E j ≠ s) (fun i _ => n - (intOf i).toNat)
  case atStart => exact ⟨0, 0, Nat.zero_le _, rfl, rfl, fun j hj => absurd hj (Nat.not_lt_zero _)⟩
  case round =>
    obtain ⟨k, q, hk, rfl, rfl, hall⟩ := hrel
    have HA : Hid (∀ j, j < k → E j ≠ s) := hall
    clear hall
    by_cases hlt : k < n
    · obtain ⟨b, off, rfl, hbB, hc⟩ := hA k hlt
      have hEk := hE k hlt
      have hI : (k : Int) < (n : Int) := by omega
      by_cases hq : E k = s
      · have HQ : Hid (E k = s) := hq
        have hd : decide (E k = s) = true := decide_eq_true hq
        clear hq
        go_wp2_with fail
        refine (same_any (E k) s _ hEk hs).mono ?_
        rintro e w1 ⟨he, k1, rfl⟩
        rw [hd] at he
        subst he
        go_wp2
        go_ret2
        exact ⟨.inl ⟨k, hlt, HQ.out, by go_num⟩, _, rfl⟩
      · have HQ : Hid (¬ E k = s) := hq
        have hd : decide (E k = s) = false := decide_eq_false hq
        clear hq
        go_wp2_with fail
        refine (same_any (E k) s _ hEk hs).mono ?_
        rintro e w1 ⟨he, k1, rfl⟩
        rw [hd] at he
        subst he
        go_wp2
        go_roundw
        case rel =>
          refine ⟨k + 1, _, by omega, by go_num, rfl, fun j hj => ?_⟩
          by_cases e : j = k
          · subst e; exact HQ.out
          · exact HA.out j (by omega)
        case measure => simp [intOf]; omega
    · go_wp2
      go_ret2
      exact ⟨.inr ⟨fun i hi => HA.out i (by omega), rfl⟩, _, rfl⟩

end Go.Proofs.Qxb6603144a
