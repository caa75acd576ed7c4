/-
  THE WALKS OF 'word' AND 'quickHash': each hands back SOME uint64; nothing is written. (Which one does not matter to the law.)
-/
import Derived.Test.Qxb6603144aRows
import Derived.WalkKit
import Derived.WalkSpells
import Derived.WalkLawsBesides
import Derived.Deep.QuietTactic
import Derived.BigQuiet
import Derived.OpenShut
namespace Go.Proofs.Qxb6603144a
open Go.RowKit

/-- It returned some uint64. -/
def SomeU64 (e : Ending) : Prop := ∃ h : Int, e = .returned (.int .u64 h) ∧ (Lit.int .u64 h).wf = true

set_option maxRecDepth 100000 in
set_option maxHeartbeats 1000000 in
theorem word_any (s : ByteArray) (w : World) (h8 : 8 ≤ s.size) (hm : s.size ≤ maxLen) :
    Calls Try.prog 23 #[.string s] w fun e w' => SomeU64 e ∧ ∃ k, w' = w.drewN k := by
  unfold maxLen at hm
  have g0 : 0 < s.size := by omega
  have g1 : (1 : Int) < (s.size : Int) := by omega
  have g2 : (2 : Int) < (s.size : Int) := by omega
  have g3 : (3 : Int) < (s.size : Int) := by omega
  have g4 : (4 : Int) < (s.size : Int) := by omega
  have g5 : (5 : Int) < (s.size : Int) := by omega
  have g6 : (6 : Int) < (s.size : Int) := by omega
  have g7 : (7 : Int) < (s.size : Int) := by omega
  go_enter Try.func23, Try.ntmps23
  go_wp2
  go_quiet (fail)
  go_wp2
  go_ret
  exact ⟨⟨_, rfl, wf_bits _ _ _ _⟩, _, rfl⟩

set_option maxRecDepth 100000 in
set_option maxHeartbeats 1000000 in
theorem hash_short (s : ByteArray) (w : World) (h8 : s.size < 8) :
    Calls Try.prog 21 #[.string s] w fun e w' => SomeU64 e ∧ ∃ k, w' = w.drewN k := by
  have hI : (s.size : Int) < 8 := by omega
  go_enter Try.func21, Try.ntmps21
  go_wp2
  go_loop [4, 14] (fun q i => ∃ (k : Nat) (x : Int), k ≤ s.size ∧ i = .int .i64 k ∧ q = .int .u64 x) (fun _ i => s.size - (intOf i).toNat)
  case atStart => exact ⟨0, 0, Nat.zero_le _, rfl, rfl⟩
  case round =>
    obtain ⟨k, x, hk, rfl, rfl⟩ := hrel
    by_cases hlt : k < s.size
    · go_wp2
      go_round
      case rel => exact ⟨k + 1, _, by omega, by go_num, rfl⟩
      case measure => simp [intOf]; omega
    · go_wp2
      go_ret
      exact ⟨⟨_, rfl, wf_wrap _ _⟩, 0, rfl⟩

set_option maxRecDepth 100000 in
set_option maxHeartbeats 1000000 in
theorem hash_long (s : ByteArray) (w : World) (h8 : 8 ≤ s.size) (hm : s.size ≤ 1048576) :
    Calls Try.prog 21 #[.string s] w fun e w' => SomeU64 e ∧ ∃ k, w' = w.drewN k := by
  have hI : ¬ (s.size : Int) < 8 := by omega
  go_enter Try.func21, Try.ntmps21
  go_wp2_with fail
  refine (word_any s _ h8 (by unfold maxLen; omega)).mono ?_
  rintro e w1 ⟨⟨x1, rfl, hw1⟩, k1, rfl⟩
  clear hw1
  go_wp2_with fail
  refine (word_any _ _ (by rw [ByteArray.size_extract]; omega) (by rw [ByteArray.size_extract]; unfold maxLen; omega)).mono ?_
  rintro e w2 ⟨⟨x2, rfl, hw2⟩, k2, rfl⟩
  clear hw2
  go_wp2_with fail
  refine (word_any _ _ (by rw [ByteArray.size_extract]; omega) (by rw [ByteArray.size_extract]; unfold maxLen; omega)).mono ?_
  rintro e w3 ⟨⟨x3, rfl, hw3⟩, k3, rfl⟩
  clear hw3
  go_wp2
  go_ret
  exact ⟨⟨_, rfl, wf_wrap _ _⟩, _, rfl⟩

theorem hash_any (s : ByteArray) (w : World) (hm : s.size ≤ 1048576) :
    Calls Try.prog 21 #[.string s] w fun e w' => SomeU64 e ∧ ∃ k, w' = w.drewN k := by
  by_cases h : s.size < 8
  · exact hash_short s w h
  · exact hash_long s w (by omega) hm

end Go.Proofs.Qxb6603144a
