/-
  THE WALKS OF 'zzLogOf', 'ZZConflicts', 'zzBytes_..'.
-/
import Derived.Test.Qxb6602710aConf
namespace Go.Proofs.Qxb6602710a
open Go.RowKit

theorem info31 : (Try.prog.info? 31).map (fun i => (i.size, i.bytes)) = some (32, 32) := by kernel_rfl
theorem zero31 : ((Try.prog.info? 31).map (·.zero)) = some (some (.agg (List.replicate 32 (Value.int .u8 0)).toArray)) := by kernel_rfl

/-- The rows of a slice of hashes that came in. -/
def LogAt (w : World) (a : Option Addr) (m : Nat) (L : Nat → List UInt8) : Prop := ∀ i, i < m → ∃ b off, a = some ⟨b, off, none⟩ ∧ b < w.heap.size ∧ w.rangeAt b (off + i * 32) (hc (L i)) ∧ (L i).length = 32

set_option maxHeartbeats 1000000 in
theorem logOf_any (a : Option Addr) (m c : Nat) (L : Nat → List UInt8) (w : World) (hm : m ≤ 4096) (hA : LogAt w a m L) :
    Calls Try.prog 17 #[.slice a m c] w fun e w' => e = .returned (.slice (some ⟨w.heap.size, 0, none⟩) m m) ∧ Below w.heap.size w w' ∧ w.heap.size < w'.heap.size ∧ ∀ i, i < m → w'.rangeAt w.heap.size (i * 32) (hc (L i)) := by
  generalize hz : (List.replicate 32 (Value.int .u8 0)).toArray = Z
  have Hz : Hid ((Try.prog.info? 31).map (·.zero) = some (some (.agg Z))) := by rw [← hz]; exact zero31
  clear hz
  go_enter Try.func17, Try.ntmps17
  go_wp2_with (refine wpList_make_new rfl 37 31 _ rfl Try.underlying37 (.agg Z) Hz.out 32 32 info31 m rfl (by omega) (by omega) ?_; intro w1 hw1)
  go_loopw [4] (fun i wr => ∃ k : Nat, k ≤ m ∧ i = .int .i64 k ∧ Below w.heap.size w wr ∧ w.heap.size < wr.heap.size ∧ wr.there w.heap.size 0 (m * 32) ∧ ∀ i, i < k → wr.rangeAt w.heap.size (i * 32) (hc (L i))) (fun i _ => m - (intOf i).toNat)
  case atStart => exact ⟨0, Nat.zero_le _, rfl, hw1.below, by rw [hw1.size]; omega, hw1.there, fun i hi => absurd hi (Nat.not_lt_zero _)⟩
  case round =>
    obtain ⟨k, hk, rfl, hb, hsz, hth, hdone⟩ := hrel
    by_cases hlt : k < m
    · obtain ⟨b, off, rfl, hbl, hr, hlen⟩ := hA k hlt
      have hr2 := below_range hb hbl hr
      have hi1 : Hid ((Try.prog.info? 29).map (·.size) = some (hc (L k)).length) := by rw [hc_length, hlen]; exact Try.size29
      have hi2 : Hid ((Try.prog.info? 31).map (·.size) = some (hc (L k)).toArray.size) := by rw [List.size_toArray, hc_length, hlen]; exact Try.size31
      have hone : Hid ((hc (L k)).toArray.all (·.oneCell') = true) := all_oneCell_toArray (hc_one _)
      have hs32 : (hc (L k)).toArray.size = 32 := by simp [hc_length, hlen]
      have hth2 : wr.there w.heap.size (k * 32) (hc (L k)).toArray.size := by rw [hs32]; exact there_sub hth (by omega) (by omega)
      have HL : Hid (∀ i, i ≤ k → (hc (L i)).length = 32) := fun i hi => by
        obtain ⟨_, _, _, _, _, h⟩ := hA i (by omega)
        rw [hc_length, h]
      have HD : Hid (∀ i, i < k → wr.rangeAt w.heap.size (i * 32) (hc (L i))) := hdone
      clear hdone hA hr
      go_wp2_with (first | (refine wpList_load_mid rfl 29 _ rfl b (off + k * 32) rfl (hc (L k)) _ hr2 Try.underlying29 rfl hi1.out ?_) | (refine wpList_store_mid rfl 31 _ _ rfl w.heap.size (k * 32) (hc (L k)).toArray rfl rfl hth2 hi2.out hone.out ?_))
      go_roundw
      case rel => exact ⟨k + 1, by omega, by go_num, below_setCells hb _ (Nat.le_refl _) _ _, Nat.lt_of_lt_of_le hsz (size_setCells_le _ _ _ _), World.there_setCells hth _ _ _, rows_step (V := fun i => hc (L i)) HL.out hth hlt HD.out⟩
      case measure => simp [intOf]; omega
    · go_wp2
      go_ret
      have : k = m := by omega
      subst this
      exact ⟨rfl, hb, hsz, hdone⟩

theorem zzconf_any (g1 g2 m n : Nat) (L C : Nat → List UInt8) (T : Nat → Int) (R : Nat → Bool) (w : World) (hm : m ≤ 4096) (hn : n ≤ 4096)
    (hL : ∀ i, i < m → (L i).length = 32) (hC : ∀ i, i < n → (C i).length = 32) (hT : ∀ i, i < n → T i ≤ m)
    (hlog : ∀ i, i < m → w.rangeAt g1 (i * 32) (hc (L i))) (hcom : ∀ i, i < n → w.rangeAt g2 (i * 34) (wc (C i) (T i) (R i))) (hg1 : g1 < w.heap.size) (hg2 : g2 < w.heap.size) :
    Calls Try.prog 16 #[.slice (some ⟨g1, 0, none⟩) m m, .slice (some ⟨g2, 0, none⟩) n n] w fun e w' => e = .returned (.int .i64 (cnt L C T n : Nat)) ∧ Below w.heap.size w w' := by
  go_enter Try.func16, Try.ntmps16
  go_wp2_with fail
  refine (conf_any g1 g2 m n L C T R _ hm hn hL hC hT hlog hcom hg1 hg2).mono ?_
  rintro e w' ⟨rfl, hb⟩
  go_wp2
  go_ret
  exact ⟨rfl, hb⟩

/-- It returned a bool. -/
def SomeBool (e : Ending) : Prop := ∃ r, e = .returned (.bool r)

set_option maxHeartbeats 1000000 in
/-- The bound on the total length: some bool; nothing is touched. -/
theorem bytes_any (a0 a1 a2 a3 : Option Addr) (l0 l1 l2 l3 c0 c1 c2 c3 : Nat) (k : Int) (w : World) (h0 : l0 ≤ maxLen) (h1 : l1 ≤ maxLen) (h2 : l2 ≤ maxLen) (h3 : l3 ≤ maxLen) :
    Calls Try.prog 20 #[.slice a0 l0 c0, .slice a1 l1 c1, .slice a2 l2 c2, .slice a3 l3 c3, .int .i64 k] w fun e w' => SomeBool e ∧ w' = w := by
  unfold maxLen at *
  by_cases hl0 : (1048576 : Int) < l0
  · go_enter Try.func20, Try.ntmps20
    go_wp2
    go_ret
    exact ⟨⟨_, rfl⟩, rfl⟩
  go_enter Try.func20, Try.ntmps20
  go_wp2
  go_loop [11, 12] (fun z i => ∃ k q : Nat, k ≤ l0 ∧ i = .int .i64 k ∧ z = .int .i64 q ∧ q ≤ 1048576) (fun _ i => l0 - (intOf i).toNat)
  case atStart => exact ⟨0, l0, Nat.zero_le _, rfl, rfl, by omega⟩
  case round =>
    obtain ⟨k, q, hk, rfl, rfl, hq⟩ := hrel
    by_cases hlt : k < l0
    · by_cases hz : (1048576 : Int) < (q : Int) + 32
      · go_wp2
        go_ret
        exact ⟨⟨_, rfl⟩, rfl⟩
      · go_wp2
        go_round
        case rel => exact ⟨k + 1, q + 32, by omega, by go_num, by go_num, by omega⟩
        case measure => simp [intOf]; omega
    · by_cases hl1 : (1048576 : Int) < l1
      · go_wp2
        go_ret
        exact ⟨⟨_, rfl⟩, rfl⟩
      by_cases hl2 : (1048576 : Int) < (q : Int) + l1
      · go_wp2
        go_ret
        exact ⟨⟨_, rfl⟩, rfl⟩
      go_wp2
      go_loop [11, 13] (fun z i => ∃ k q : Nat, k ≤ l1 ∧ i = .int .i64 k ∧ z = .int .i64 q ∧ q ≤ 1048576) (fun _ i => l1 - (intOf i).toNat)
      case atStart => exact ⟨0, q + l1, Nat.zero_le _, rfl, by go_num, by omega⟩
      case round =>
        obtain ⟨k1, q1, hk1, rfl, rfl, hq1⟩ := hrel
        by_cases hlt1 : k1 < l1
        · by_cases hz : (1048576 : Int) < (q1 : Int) + 32
          · go_wp2
            go_ret
            exact ⟨⟨_, rfl⟩, rfl⟩
          · go_wp2
            go_round
            case rel => exact ⟨k1 + 1, q1 + 32, by omega, by go_num, by go_num, by omega⟩
            case measure => simp [intOf]; omega
        · go_wp2
          all_goals
            go_ret
            exact ⟨⟨_, rfl⟩, rfl⟩

end Go.Proofs.Qxb6602710a
