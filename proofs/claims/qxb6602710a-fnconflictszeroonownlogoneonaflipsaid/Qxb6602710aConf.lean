/-
  THE WALK OF 'conflicts'.
-/
import Derived.Test.Qxb6602710aMem
import Derived.Deep.QuietTactic
import Derived.BigQuiet
import Derived.Deep.RegionHeld3
import Derived.Deep.DrawnRows
namespace Go.Proofs.Qxb6602710a
open Go.RowKit
open Go.Extern.Stop (cell)

/-- A hash's cells. -/
def hc (h : List UInt8) : List Value := h.map cell
/-- A commit watch's cells. -/
def wc (h : List UInt8) (t : Int) (r : Bool) : List Value := hc h ++ [Value.int .i64 t, Value.bool r]

theorem hc_length (h : List UInt8) : (hc h).length = h.length := by simp [hc]
theorem wc_length (h : List UInt8) (t : Int) (r : Bool) : (wc h t r).length = h.length + 2 := by simp [wc, hc]
theorem hc_one (h : List UInt8) : ∀ v ∈ hc h, v.oneCell' = true := fun v hv => by
  obtain ⟨b, _, rfl⟩ := List.mem_map.1 hv; rfl
theorem wc_one (h : List UInt8) (t : Int) (r : Bool) : ∀ v ∈ wc h t r, v.oneCell' = true := fun v hv => by
  rcases List.mem_append.1 hv with h | h
  · exact hc_one _ v h
  · simp at h; rcases h with rfl | rfl <;> rfl

/-- Row i begins with the hash .. -/
theorem wc_hash {w : World} {b o : Nat} {h : List UInt8} {t : Int} {r : Bool} (hr : w.rangeAt b o (wc h t r)) : w.rangeAt b o (hc h) := fun j v hv => by
  have hj : j < (hc h).length := (List.getElem?_eq_some_iff.1 hv).1
  exact hr j v (by unfold wc; rw [List.getElem?_append_left hj]; exact hv)
/-- .. then the height. -/
theorem wc_height {w : World} {b o : Nat} {h : List UInt8} {t : Int} {r : Bool} (hl : h.length = 32) (hr : w.rangeAt b o (wc h t r)) : w.cell? ⟨b, o + 32, none⟩ = some (.int .i64 t) :=
  hr 32 _ (by unfold wc; rw [List.getElem?_append_right (by rw [hc_length, hl]; exact Nat.le_refl _), hc_length, hl]; rfl)

/-- How many of the first k rows the log does not hold. -/
def cnt (L C : Nat → List UInt8) (T : Nat → Int) : Nat → Nat
  | 0 => 0
  | k + 1 => cnt L C T k + if 0 < T k ∧ L (T k - 1).toNat ≠ C k then 1 else 0
theorem cnt_le (L C : Nat → List UInt8) (T : Nat → Int) (k : Nat) : cnt L C T k ≤ k := by
  induction k with
  | zero => exact Nat.le_refl _
  | succ k ih => unfold cnt; split <;> omega

theorem cnt_pos {L C : Nat → List UInt8} {T : Nat → Int} {k j : Nat} (h : T k = (j : Int) + 1) : cnt L C T (k + 1) = cnt L C T k + if L j ≠ C k then 1 else 0 := by
  have h0 : 0 < T k := by omega
  rw [cnt, show (T k - 1).toNat = j from by omega]
  simp [h0]
theorem cnt_no {L C : Nat → List UInt8} {T : Nat → Int} {k : Nat} (h : ¬ 0 < T k) : cnt L C T (k + 1) = cnt L C T k := by
  rw [cnt, if_neg (fun h2 => h h2.1)]; rfl

theorem neq_hash (x y : List UInt8) (hx : x.length = 32) (hy : y.length = 32) (w : World) : (Op.equalIn 10000 31 (.agg (hc x).toArray) (.agg (hc y).toArray)).run Try.prog w = .ok (x == y) w :=
  run_equalIn_bytes w 9998 31 5 32 Try.underlying31 Try.underlying5 (fun w => by kernel_rfl) x y hx hy

set_option maxHeartbeats 1000000 in
theorem conf_any (g1 g2 m n : Nat) (L C : Nat → List UInt8) (T : Nat → Int) (R : Nat → Bool) (w : World) (hm : m ≤ 4096) (hn : n ≤ 4096)
    (hL : ∀ i, i < m → (L i).length = 32) (hC : ∀ i, i < n → (C i).length = 32) (hT : ∀ i, i < n → T i ≤ m)
    (hlog : ∀ i, i < m → w.rangeAt g1 (i * 32) (hc (L i))) (hcom : ∀ i, i < n → w.rangeAt g2 (i * 34) (wc (C i) (T i) (R i))) (hg1 : g1 < w.heap.size) (hg2 : g2 < w.heap.size) :
    Calls Try.prog 25 #[.slice (some ⟨g1, 0, none⟩) m m, .slice (some ⟨g2, 0, none⟩) n n] w fun e w' => e = .returned (.int .i64 (cnt L C T n : Nat)) ∧ Below w.heap.size w w' := by
  go_enter Try.func25, Try.ntmps25
  go_wp2
  go_loopw [5, 10] (fun c i wr => ∃ k : Nat, k ≤ n ∧ i = .int .i64 k ∧ c = .int .i64 (cnt L C T k : Nat) ∧ Below w.heap.size w wr) (fun _ i _ => n - (intOf i).toNat)
  case atStart => exact ⟨0, Nat.zero_le _, rfl, rfl, Below.refl _ _⟩
  case round =>
    obtain ⟨k, hk, rfl, rfl, hb⟩ := hrel
    have hcl := cnt_le L C T k
    by_cases hlt : k < n
    · have hcm := below_range hb hg2 (hcom k hlt)
      have hck := hC k hlt
      have hTk := hT k hlt
      have hsz : Hid ((Try.prog.info? 33).map (·.size) = some (wc (C k) (T k) (R k)).length) := by rw [wc_length, hck]; exact Try.size33
      have hsza : Hid ((Try.prog.info? 33).map (·.size) = some (wc (C k) (T k) (R k)).toArray.size) := by rw [List.size_toArray, wc_length, hck]; exact Try.size33
      have hsl : (wc (C k) (T k) (R k)).toArray.size = 34 := by rw [List.size_toArray, wc_length, hck]
      have hone : Hid ((wc (C k) (T k) (R k)).toArray.all (·.oneCell') = true) := all_oneCell_toArray (wc_one _ _ _)
      generalize hz : ((List.replicate 32 (Value.int .u8 0)) ++ [Value.int .i64 0, Value.bool false]).toArray = Z
      have hzs : Z.size = 34 := by rw [← hz]; rfl
      have Hz : Hid ((Try.prog.info? 33).map (·.zero) = some (some (.agg Z))) := by rw [← hz]; exact zero33
      clear hz
      go_wp2_with (first | (refine wpList_alloc_new rfl 33 rfl (.agg Z) 34 Hz.out hzs ?_; intro w1 hw1) | (refine wpList_load_mid rfl 33 _ rfl g2 (k * 34) rfl (wc (C k) (T k) (R k)) _ hcm Try.underlying33 rfl hsz.out ?_) | (refine wpList_store_mid rfl 33 _ _ rfl wr.heap.size 0 (wc (C k) (T k) (R k)).toArray rfl rfl (by rw [hsl]; exact hw1.there) hsza.out hone.out ?_))
      simp only [Act.put, List.setIfInBounds_toArray, List.set_cons_zero, List.set_cons_succ]
      have hrow : (w1.setCells wr.heap.size 0 (wc (C k) (T k) (R k))).rangeAt wr.heap.size 0 (wc (C k) (T k) (R k)) := World.rangeAt_setCells_same _ _ _ _ (by rw [← List.size_toArray, hsl]; exact hw1.there)
      have hb2 : Below w.heap.size w (w1.setCells wr.heap.size 0 (wc (C k) (T k) (R k))) := below_setCells (hb.trans (hw1.below.mono hb.size)) _ hb.size _ _
      generalize w1.setCells wr.heap.size 0 (wc (C k) (T k) (R k)) = W at *
      have hht := wc_height hck hrow
      have hha := wc_hash hrow
      generalize wr.heap.size = H at *
      simp only [Nat.zero_add] at hht
      clear hsz hsza hsl hone hzs Hz hw1 hrow hcm
      by_cases hpos : 0 < T k
      · obtain ⟨j, hj⟩ : ∃ j : Nat, T k = (j : Int) + 1 := ⟨(T k - 1).toNat, by omega⟩
        have hjm : j < m := by omega
        have hlj := below_range hb2 hg1 (hlog j hjm)
        have hLj := hL j hjm
        have Hcnt : Hid (cnt L C T (k + 1) = cnt L C T k + if L j ≠ C k then 1 else 0) := cnt_pos hj
        rw [hj] at hht
        clear hj hpos hTk hT hlog hcom hL hC
        have hu := Try.underlying31
        have hi1 : (Try.prog.info? 31).map (·.size) = some (hc (L j)).length := by rw [hc_length, hLj]; exact Try.size31
        have hi2 : (Try.prog.info? 31).map (·.size) = some (hc (C k)).length := by rw [hc_length, hck]; exact Try.size31
        have hj1 : (0 : Int) < (j : Int) + 1 := by omega
        have hj2 : ((j : Int)) < (m : Int) := by omega
        have hwr : IntKind.i64.wrap (j : Int) = j := by rw [IntKind.wrap_i64]; omega
        have hwr2 : IntKind.i64.wrap ((j : Int) + 1 - 1) = j := by rw [IntKind.wrap_i64]; omega
        have hneq := fun W => neq_hash (L j) (C k) hLj hck W
        refine wp_region_quiet_lit (by kernel_rfl) (by kernel_rfl) ?_
        repeat (first | go_big_quiet_skip | (go_big_quiet_want; first | (refine quiet_load_mid 31 _ rfl g1 (j * 32) (by rfl) (hc (L j)) _ ?_ Try.underlying31 rfl hi1 ?_; (intro w' hw'; obtain ⟨nq, rfl⟩ := hw'; exact hlj); (simp only [Act.put, List.setIfInBounds_toArray, List.set_cons_zero, List.set_cons_succ]); go_big_quiet_on) | (refine quiet_load_mid 31 _ rfl H 0 (by rfl) (hc (C k)) _ ?_ Try.underlying31 rfl hi2 ?_; (intro w' hw'; obtain ⟨nq, rfl⟩ := hw'; exact hha); (simp only [Act.put, List.setIfInBounds_toArray, List.set_cons_zero, List.set_cons_succ]); go_big_quiet_on) | (go_big_quiet_op; go_big_quiet_on)))
        refine wpQuiet_nil ?_
        intro _ hw'
        obtain ⟨nq, hw''⟩ := hw'
        subst hw''
        clear hneq hwr hwr2 hi1 hi2 hu hlj hha hht
        have hb3 : Hid (Below w.heap.size w (W.drewN nq)) := hb2.trans (below_drewN' _ _ _)
        by_cases hq : L j = C k
        · have hqb : (L j == C k) = true := by simp [hq]
          have hc0 : cnt L C T (k + 1) = cnt L C T k := by rw [Hcnt.out]; simp [hq]
          have Hc : Hid (cnt L C T (k + 1) = cnt L C T k) := hc0
          clear hq hb2 hc0
          simp only [hqb, Bool.not_true]
          go_wp2
          go_roundw
          case rel => exact ⟨k + 1, by omega, by go_num, by rw [Hc.out], hb3.out⟩
          case measure => simp [intOf]; omega
        · have hqb : (L j == C k) = false := by simp [hq]
          have hc0 : cnt L C T (k + 1) = cnt L C T k + 1 := by rw [Hcnt.out]; simp [hq]
          have Hc : Hid (cnt L C T (k + 1) = cnt L C T k + 1) := hc0
          clear hq hb2 hc0
          simp only [hqb, Bool.not_false]
          go_wp2
          go_roundw
          case rel => exact ⟨k + 1, by omega, by go_num, by rw [Hc.out]; go_num, hb3.out⟩
          case measure => simp [intOf]; omega
      · have hd : decide (0 < T k) = false := by simpa using hpos
        have Hc : Hid (cnt L C T (k + 1) = cnt L C T k) := cnt_no hpos
        clear hpos hT hlog hcom hL hC hTk hha
        go_quiet (fail)
        have hb3 : Hid (Below w.heap.size w (W.drewN nq)) := hb2.trans (below_drewN' _ _ _)
        clear hb2
        go_wp2
        go_roundw
        case rel => exact ⟨k + 1, by omega, by go_num, by rw [Hc.out], hb3.out⟩
        case measure => simp [intOf]; omega
    · go_wp2
      go_ret
      have : k = n := by omega
      subst this
      exact ⟨rfl, hb⟩

end Go.Proofs.Qxb6602710a
