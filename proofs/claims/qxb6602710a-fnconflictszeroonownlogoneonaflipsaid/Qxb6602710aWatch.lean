/-
  THE WALK OF 'ZZMakeCommitWatch'.
-/
import Derived.Test.Qxb6602710aMem
namespace Go.Proofs.Qxb6602710a
open Go.RowKit

set_option maxHeartbeats 400000 in
theorem watch_any (cs : List Value) (hl : cs.length = 32) (h1 : ∀ v ∈ cs, v.oneCell' = true) (n : Int) (b : Bool) (w : World) :
    Calls Try.prog 14 #[.agg cs.toArray, .int .i64 n, .bool b] w fun e w' => e = .returned (.agg (cs ++ [Value.int .i64 n, Value.bool b]).toArray) ∧ Below w.heap.size w w' := by
  have hr : (w.alloc (.cells cs.toArray 31)).rangeAt w.heap.size 0 cs := fun j v hv => by
    rw [World.cell?_alloc_at cs.toArray 31 w.heap.size (0 + j) rfl]; simpa using hv
  have hs31 : (Try.prog.info? 31).map (·.size) = some cs.length := by rw [hl]; exact Try.size31
  have hs33 : (Try.prog.info? 33).map (·.size) = some (cs ++ [Value.int .i64 n, Value.bool b]).toArray.size := by rw [show (cs ++ [Value.int .i64 n, Value.bool b]).toArray.size = 34 from by simp [hl]]; exact Try.size33
  have ha33 : (cs ++ [Value.int .i64 n, Value.bool b]).toArray.all (·.oneCell') = true := all_oneCell_toArray (fun v hv => by
    rcases List.mem_append.1 hv with h | h
    · exact h1 v h
    · simp at h; rcases h with rfl | rfl <;> rfl)
  have H : Hid _ := And.intro hr (And.intro hs31 (And.intro hs33 ha33))
  clear hr hs31 hs33 ha33 h1
  generalize hz : ((List.replicate 32 (Value.int .u8 0)) ++ [Value.int .i64 0, Value.bool false]).toArray = Z
  have hzs : Z.size = 34 := by rw [← hz]; rfl
  have Hz : Hid ((Try.prog.info? 33).map (·.zero) = some (some (.agg Z))) := by rw [← hz]; exact zero33
  clear hz
  go_enter Try.func14, Try.ntmps14
  go_wp2_with (first | (refine wpList_alloc_new rfl 33 rfl (.agg Z) 34 Hz.out hzs ?_; intro w1 hw1) | (refine wpList_load_mid rfl 31 _ rfl w.heap.size 0 rfl cs _ (below_range hw1.below (by simp) H.out.1) Try.underlying31 rfl H.out.2.1 ?_) | (refine wpList_build_watch rfl _ _ _ rfl cs hl n b rfl rfl rfl ?_) | (refine wpList_store_mid rfl 33 _ _ rfl (w.heap.size + 1) 0 _ rfl rfl ?_ H.out.2.2.1 H.out.2.2.2 ?_))
  · have := hw1.there
    simpa [hl] using this
  · have hth : w1.there (w.heap.size + 1) 0 (cs ++ [Value.int .i64 n, Value.bool b]).length := by
      have := hw1.there
      simpa [hl] using this
    have hb1 : Below w.heap.size w w1 := ((Below.refl _ _).alloc (Nat.le_refl _) _).trans (hw1.below.mono (by simp))
    exact bodyPost_ret (v := .agg (cs ++ [Value.int .i64 n, Value.bool b]).toArray) (results_cell_mid (P := Try.prog) (fn := Try.f14) (p := 6) (ty := 33) rfl _ _ (w.heap.size + 1) 0 _ _ rfl (World.rangeAt_setCells_same _ _ _ _ hth) Try.underlying33 rfl (by simpa using H.out.2.2.1)) rfl
      ⟨rfl, below_setCells hb1 _ (by omega) _ _⟩

end Go.Proofs.Qxb6602710a
