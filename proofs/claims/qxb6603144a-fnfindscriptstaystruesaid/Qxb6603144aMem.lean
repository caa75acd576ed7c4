/-
  PLAIN LAWS ON NEW MEMORY FOR THIS SEAT; THE WALKS OF 'b1Consistent', 'b1Copy32', 'ZZNewTable', 'ZZFound'.
-/
import Derived.Test.Qxb6603144aMap
import Derived.Deep.MidRow
import Derived.Lib.SliceRun
namespace Go.Proofs.Qxb6603144a
open Go.RowKit

/-- A new block of n cells, at the heap's end. -/
structure NewBlock (w w' : World) (n : Nat) : Prop where
  below : Below w.heap.size w w'
  size : w'.heap.size = w.heap.size + 1
  there : w'.there w.heap.size 0 n

theorem newBlock_alloc (w : World) (C : Array Value) (t : TypeId) : NewBlock w (w.alloc (.cells C t)) C.size := by
  refine ⟨(Below.refl _ _).alloc (Nat.le_refl _) _, by simp, fun j hj => ?_⟩
  rw [World.cell?_alloc_at C t w.heap.size (0 + j) rfl, World.frozen?_alloc_at C t w.heap.size (0 + j) rfl]
  simp [hj]

/-- 'make([]T, n)': a new block of n * size cells; the world behind it is a letter. -/
theorem wpList_make_new {P : Program} {ops : Array Oper} {rest : List Oper} {op : Oper} {a : Act} {w : World} {Q : Exit → Act → World → Prop} (hgd : op.guard = none) (t e : TypeId) (x : Operand) (ho : op.op = .makeSlice t x x)
    (ht : P.underlying t = some (.slice e)) (z : Value) (hz : (P.info? e).map (·.zero) = some (some z)) (size bytes : Nat) (hs : (P.info? e).map (fun i => (i.size, i.bytes)) = some (size, bytes))
    (n : Nat) (hx : a.eval x = .int .i64 n) (hb : bytes * n ≤ 281474976710656) (h63 : n ≤ 9223372036854775807)
    (h : ∀ w', NewBlock w w' (n * size) → wpList P ops Q rest (a.put op.dst (.slice (some ⟨w.heap.size, 0, none⟩) n n)) w') : wpList P ops Q (op :: rest) a w :=
  wpList_plain hgd fun K hK => by
    cases hq : P.info? e with
    | none => simp [hq] at hz
    | some i =>
      have hi : i.zero = some z := by simpa [hq] using hz
      have hs' : i.size = size ∧ i.bytes = bytes := by simpa [hq] using hs
      obtain ⟨rfl, rfl⟩ := hs'
      have hbI : (i.bytes : Int) * (n : Int) ≤ 281474976710656 := by
        have h : ((i.bytes * n : Nat) : Int) ≤ 281474976710656 := by omega
        simpa using h
      have hrun := run_make (P := P) w t e i z ht hq hi .i64 .i64 n n (by omega) (Int.le_refl _) hbI (by omega)
      simp only [Int.toNat_natCast] at hrun
      unfold Oper.wp execOp
      simp only [ho, hx]
      rw [Sem.run_bind, hrun]
      have hnb := newBlock_alloc w (madeCells z.cells (n * i.size)) e
      rw [size_madeCells] at hnb
      exact hK _ _ (h _ hnb)

theorem there_sub {w : World} {b o n o' n' : Nat} (h : w.there b o n) (h1 : o ≤ o') (h2 : o' + n' ≤ o + n) : w.there b o' n' := fun j hj => by
  have := h (o' - o + j) (by omega)
  rwa [show o + (o' - o + j) = o' + j from by omega] at this


/-- It returned a bool; true only where p holds. -/
def SaidSo (p : Prop) (e : Ending) : Prop := ∃ r, e = .returned (.bool r) ∧ (r = true → p)

set_option maxHeartbeats 1000000 in
theorem consistent_any (B : Nat) (mv : Option Nat) (N : Nat) (M : ByteArray → Option Int) (a : Option Addr) (n c : Nat) (E : Nat → ByteArray) (w : World) (hM : MapIs B w mv N M) (hA : StrsAt B w a n E) (hE : ∀ i, i < n → (E i).size ≤ 1048576) (hn : n ≤ 4096) :
    Calls Try.prog 14 #[.map mv, .slice a n c] w fun e w' => SaidSo (N = n ∧ Numbered n E M) e ∧ w' = w := by
  by_cases hN : N = n
  · have hNI : ((N : Int) != (n : Int)) = false := by simp [hN]
    have HN : Hid (N = n) := hN
    clear hN
    go_enter Try.func14, Try.ntmps14
    go_wp2_with (refine wpList_len_map hM (Below.refl _ _) rfl _ rfl rfl ?_)
    go_loop [5] (fun i => ∃ k : Nat, k ≤ n ∧ i = .int .i64 k ∧ ∀ j, j < k → M (E j) = some (j : Int)) (fun i => n - (intOf i).toNat)
    case atStart => exact ⟨0, Nat.zero_le _, rfl, fun j hj => absurd hj (Nat.not_lt_zero _)⟩
    case round =>
      obtain ⟨k, hk, rfl, hall⟩ := hrel
      have HA : Hid (∀ j, j < k → M (E j) = some (j : Int)) := hall
      clear hall
      by_cases hlt : k < n
      · obtain ⟨b, off, rfl, hbB, hc⟩ := hA k hlt
        have hEk : (E k).size ≤ maxLen := Nat.le_trans (hE k hlt) (by unfold maxLen; omega)
        have hI : (k : Int) < (n : Int) := by omega
        clear hA hE
        cases hm : M (E k) with
        | none =>
          have h1 : Hid ((M (E k)).getD 0 = 0) := by rw [hm]; rfl
          have h2 : Hid ((M (E k)).isSome = false) := by rw [hm]; rfl
          clear hm
          go_wp2_with (refine wpList_look_map hM (Below.refl _ _) rfl _ _ rfl rfl (E k) rfl hEk 0 false h1.out h2.out ?_)
          go_ret
          exact ⟨⟨_, rfl, fun h => by cases h⟩, rfl⟩
        | some v =>
          have h1 : Hid ((M (E k)).getD 0 = v) := by rw [hm]; rfl
          have h2 : Hid ((M (E k)).isSome = true) := by rw [hm]; rfl
          have Hm : Hid (M (E k) = some v) := hm
          clear hm
          by_cases hv : v = (k : Int)
          · subst hv
            have hvI : (((k : Nat) : Int) != ((k : Nat) : Int)) = false := by simp
            go_wp2_with (refine wpList_look_map hM (Below.refl _ _) rfl _ _ rfl rfl (E k) rfl hEk (k : Int) true h1.out h2.out ?_)
            go_round
            case rel =>
              refine ⟨k + 1, by omega, by go_num, fun j hj => ?_⟩
              by_cases e : j = k
              · subst e; exact Hm.out
              · exact HA.out j (by omega)
            case measure => simp [intOf]; omega
          · have hvI : (v != (k : Int)) = true := by rw [bne_iff_ne]; exact hv
            clear hv
            go_wp2_with (refine wpList_look_map hM (Below.refl _ _) rfl _ _ rfl rfl (E k) rfl hEk v true h1.out h2.out ?_)
            go_ret
            exact ⟨⟨_, rfl, fun h => by cases h⟩, rfl⟩
      · go_wp2
        go_ret
        exact ⟨⟨_, rfl, fun _ => ⟨HN.out, fun i hi => HA.out i (by omega)⟩⟩, rfl⟩
  · have hNI : ((N : Int) != (n : Int)) = true := by rw [bne_iff_ne]; omega
    clear hN
    go_enter Try.func14, Try.ntmps14
    go_wp2_with (refine wpList_len_map hM (Below.refl _ _) rfl _ rfl rfl ?_)
    go_ret
    exact ⟨⟨_, rfl, fun h => by cases h⟩, rfl⟩

/-- The numbers of a slice of uint32 that came in. -/
def CellsAt (B : Nat) (w : World) (a : Option Addr) (n : Nat) (X : Nat → Int) : Prop := ∀ i, i < n → ∃ b off, a = some ⟨b, off, none⟩ ∧ b < B ∧ w.cell? ⟨b, off + i, none⟩ = some (.int .u32 (X i))
theorem CellsAt.later {B n : Nat} {w w' : World} {a : Option Addr} {X : Nat → Int} (h : CellsAt B w a n X) (hb : Below B w w') : CellsAt B w' a n X := fun i hi => by
  obtain ⟨b, off, h1, h2, h3⟩ := h i hi
  exact ⟨b, off, h1, h2, (hb.cell (p := ⟨b, off + i, none⟩) h2).trans h3⟩

theorem info38 : (Try.prog.info? 38).map (fun i => (i.size, i.bytes)) = some (1, 4) := by kernel_rfl
theorem zero38 : (Try.prog.info? 38).map (·.zero) = some (some (.int .u32 0)) := by kernel_rfl

theorem copy_nil (w : World) : Calls Try.prog 15 #[.slice none 0 0] w fun e w' => e = .returned (.slice none 0 0) ∧ w' = w := by
  have he := fun w => Lib.run_eql_slice_nil (P := Try.prog) w 29 38 none 0 0 0 0 Try.underlying29
  go_enter Try.func15, Try.ntmps15
  go_wp2
  go_ret
  exact ⟨rfl, rfl⟩

set_option maxHeartbeats 1000000 in
theorem copy_some (ad : Addr) (n c : Nat) (X : Nat → Int) (w : World) (hn : n ≤ 65536) (hA : CellsAt w.heap.size w (some ad) n X) :
    Calls Try.prog 15 #[.slice (some ad) n c] w fun e w' => e = .returned (.slice (some ⟨w.heap.size, 0, none⟩) n n) ∧ Below w.heap.size w w' ∧ w'.heap.size = w.heap.size + 1 ∧ ∀ i, i < n → w'.cell? ⟨w.heap.size, i, none⟩ = some (.int .u32 (X i)) ∧ w'.frozen? ⟨w.heap.size, i, none⟩ = false := by
  have he := fun w => Lib.run_eql_slice_nil (P := Try.prog) w 29 38 (some ad) n c 0 0 Try.underlying29
  go_enter Try.func15, Try.ntmps15
  go_wp2_with (refine wpList_make_new rfl 29 38 _ rfl Try.underlying29 (.int .u32 0) zero38 1 4 info38 n rfl (by omega) (by omega) ?_; intro w1 hw1)
  go_loopw [4] (fun i wr => ∃ k : Nat, k ≤ n ∧ i = .int .i64 k ∧ Below w.heap.size w wr ∧ wr.heap.size = w.heap.size + 1 ∧ wr.there w.heap.size 0 n ∧ ∀ i, i < k → wr.cell? ⟨w.heap.size, i, none⟩ = some (.int .u32 (X i))) (fun i _ => n - (intOf i).toNat)
  case atStart => exact ⟨0, Nat.zero_le _, rfl, hw1.below, hw1.size, by simpa using hw1.there, fun i hi => absurd hi (Nat.not_lt_zero _)⟩
  case round =>
    obtain ⟨k, hk, rfl, hb, hsz, hth, hdone⟩ := hrel
    have HD : Hid (∀ i, i < k → wr.cell? ⟨w.heap.size, i, none⟩ = some (.int .u32 (X i))) := hdone
    clear hdone
    by_cases hlt : k < n
    · obtain ⟨b, off, hab, hbB, hc⟩ := hA k hlt
      have hadd : ad = ⟨b, off, none⟩ := Option.some.inj hab
      subst hadd
      have hc' := (hb.cell (p := ⟨b, off + k, none⟩) hbB).trans hc
      obtain ⟨u, hu⟩ := Option.isSome_iff_exists.1 (hth k hlt).1
      have hf := (hth k hlt).2
      simp only [Nat.zero_add] at hu hf
      have hI : (k : Int) < (n : Int) := by omega
      have HTH : Hid (wr.there w.heap.size 0 n) := hth
      clear hA hc hth hw1 hab
      go_wp2
      go_roundw
      case rel =>
        refine ⟨k + 1, by omega, by go_num, hb.setCell (p := ⟨w.heap.size, k, none⟩) (Nat.le_refl _) _, by simpa using hsz, ?_, ?_⟩
        · have := World.there_setCells HTH.out w.heap.size k [Value.int .u32 (X k)]
          simpa [World.setCells] using this
        · intro i hi
          by_cases e : i = k
          · subst e; exact World.cell?_setCell_same _ _ _ hu
          · rw [World.cell?_setCell_other _ _ _ _ (by intro h; simp at h <;> omega)]
            exact HD.out i (by omega)
      case measure => simp [intOf]; omega
    · go_wp2
      go_ret
      refine ⟨rfl, hb, hsz, fun i hi => ⟨HD.out i (by omega), ?_⟩⟩
      have := (hth i hi).2
      simpa using this

/-- A new table in a block of its own. -/
structure TabAt (w : World) (T : Nat) (mv : Option Nat) (ea : Option Addr) (en ec : Nat) (by_ : Int) (fv : Value) : Prop where
  c0 : w.cell? ⟨T, 0, none⟩ = some (.map mv)
  c1 : w.cell? ⟨T, 1, none⟩ = some (.slice ea en ec)
  c2 : w.cell? ⟨T, 2, none⟩ = some (.int .i64 by_)
  c3 : w.cell? ⟨T, 3, none⟩ = some fv
  f3 : w.frozen? ⟨T, 3, none⟩ = false

theorem newTable_any (mv : Option Nat) (ea : Option Addr) (en ec : Nat) (by_ : Int) (fa : Option Addr) (fl fc : Nat) (w : World) :
    Calls Try.prog 16 #[.map mv, .slice ea en ec, .int .i64 by_, .slice fa fl fc] w fun e w' => e = .returned (.pointer (some ⟨w.heap.size, 0, none⟩)) ∧ TabAt w' w.heap.size mv ea en ec by_ (.slice fa fl fc) ∧ Below w.heap.size w w' ∧ w'.heap.size = w.heap.size + 1 := by
  go_enter Try.func16, Try.ntmps16
  go_wp2
  go_ret
  refine ⟨rfl, ⟨?_, ?_, ?_, ?_, ?_⟩, (Below.refl _ _).alloc (Nat.le_refl _) _, by simp⟩
  all_goals go_simp

theorem found_any (T : Nat) (fa : Option Addr) (fl fc : Nat) (w : World) (hc : w.cell? ⟨T, 3, none⟩ = some (.slice fa fl fc)) :
    Calls Try.prog 19 #[.pointer (some ⟨T, 0, none⟩)] w fun e w' => e = .returned (.slice fa fl fc) ∧ w' = w := by
  go_enter Try.func19, Try.ntmps19
  go_wp2
  go_ret
  exact ⟨rfl, rfl⟩

end Go.Proofs.Qxb6603144a
