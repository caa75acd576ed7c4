/-
  PLAIN LAWS ON NEW MEMORY FOR THIS SEAT; THE WALKS OF the length bounds, 'linksInRange', 'cloneI32', 'cloneLinks'.
-/
import Derived.Test.Qxb6603240aRows
import Derived.WalkKit
import Derived.WalkSpells
import Derived.WalkLawsBesides
import Derived.Deep.MidRow
import Derived.Deep.QuietTactic
import Derived.BigQuiet
import Derived.OpenShut
import Derived.Lib.SliceRun
namespace Go.Proofs.Qxb6603240a
open Go.RowKit

/-- A new block of n cells, at the heap's end. -/
structure NewBlock (w w' : World) (n : Nat) : Prop where
  below : Below w.heap.size w w'
  size : w'.heap.size = w.heap.size + 1
  there : w'.there w.heap.size 0 n

theorem newBlock_alloc (w : World) (C : Array Value) (t : TypeId) : NewBlock w (w.alloc (.cells C t)) C.size := by
  refine ⟨(Below.refl _ _).alloc (Nat.le_refl _) _, by simp, fun j hj => ?_⟩
  rw [World.cell?_alloc_at C t w.heap.size (0 + j) rfl, World.frozen?_alloc_at C t w.heap.size (0 + j) rfl]
  simp [hj]

/-- 'make([]T, n)': a new block of n * size cells; the world behind it is a letter. -/
theorem wpList_make_new {P : Program} {ops : Array Oper} {rest : List Oper} {op : Oper} {a : Act} {w : World} {Q : Exit → Act → World → Prop} (hgd : op.guard = none) (t e : TypeId) (x : Operand) (ho : op.op = .makeSlice t x x)
    (ht : P.underlying t = some (.slice e)) (z : Value) (hz : (P.info? e).map (·.zero) = some (some z)) (size bytes : Nat) (hs : (P.info? e).map (fun i => (i.size, i.bytes)) = some (size, bytes))
    (n : Nat) (hx : a.eval x = .int .i64 n) (hb : bytes * n ≤ 281474976710656) (h63 : n ≤ 9223372036854775807)
    (h : ∀ w', NewBlock w w' (n * size) → wpList P ops Q rest (a.put op.dst (.slice (some ⟨w.heap.size, 0, none⟩) n n)) w') : wpList P ops Q (op :: rest) a w :=
  wpList_plain hgd fun K hK => by
    cases hq : P.info? e with
    | none => simp [hq] at hz
    | some i =>
      have hi : i.zero = some z := by simpa [hq] using hz
      have hs' : i.size = size ∧ i.bytes = bytes := by simpa [hq] using hs
      obtain ⟨rfl, rfl⟩ := hs'
      have hbI : (i.bytes : Int) * (n : Int) ≤ 281474976710656 := by
        have h : ((i.bytes * n : Nat) : Int) ≤ 281474976710656 := by omega
        simpa using h
      have hrun := run_make (P := P) w t e i z ht hq hi .i64 .i64 n n (by omega) (Int.le_refl _) hbI (by omega)
      simp only [Int.toNat_natCast] at hrun
      unfold Oper.wp execOp
      simp only [ho, hx]
      rw [Sem.run_bind, hrun]
      have hnb := newBlock_alloc w (madeCells z.cells (n * i.size)) e
      rw [size_madeCells] at hnb
      exact hK _ _ (h _ hnb)

theorem there_sub {w : World} {b o n o' n' : Nat} (h : w.there b o n) (h1 : o ≤ o') (h2 : o' + n' ≤ o + n) : w.there b o' n' := fun j hj => by
  have := h (o' - o + j) (by omega)
  rwa [show o + (o' - o + j) = o' + j from by omega] at this


theorem below_drewN (B : Nat) (w : World) (k : Nat) : Below B w (w.drewN k) := ⟨rfl, rfl, rfl, Nat.le_refl _, fun _ _ => rfl⟩

/-- l numbers lie behind A, in blocks below B. -/
def RowAt (B : Nat) (w : World) (A : Option Addr) (l : Nat) (Z : Nat → Int) : Prop := ∀ j, j < l → ∃ b off, A = some ⟨b, off, none⟩ ∧ b < B ∧ w.cell? ⟨b, off + j, none⟩ = some (.int .i32 (Z j))
/-- n rows lie behind a. -/
def LinksAt (B : Nat) (w : World) (a : Option Addr) (n : Nat) (ll : Nat → Nat) (Z : Nat → Nat → Int) : Prop := ∀ i, i < n → ∃ b off A C, a = some ⟨b, off, none⟩ ∧ b < B ∧ w.cell? ⟨b, off + i, none⟩ = some (.slice A (ll i) C) ∧ RowAt B w A (ll i) (Z i)

theorem RowAt.later {B l : Nat} {w w' : World} {A : Option Addr} {Z : Nat → Int} (h : RowAt B w A l Z) (hb : Below B w w') : RowAt B w' A l Z := fun j hj => by
  obtain ⟨b, off, h1, h2, h3⟩ := h j hj
  exact ⟨b, off, h1, h2, (hb.cell (p := ⟨b, off + j, none⟩) h2).trans h3⟩
theorem LinksAt.later {B n : Nat} {w w' : World} {a : Option Addr} {ll : Nat → Nat} {Z : Nat → Nat → Int} (h : LinksAt B w a n ll Z) (hb : Below B w w') : LinksAt B w' a n ll Z := fun i hi => by
  obtain ⟨b, off, A, C, h1, h2, h3, h4⟩ := h i hi
  exact ⟨b, off, A, C, h1, h2, (hb.cell (p := ⟨b, off + i, none⟩) h2).trans h3, h4.later hb⟩

/-- It returned a bool. -/
def SomeBool (e : Ending) : Prop := ∃ r, e = .returned (.bool r)
/-- It returned a bool; true only where p holds. -/
def SaidSo (p : Prop) (e : Ending) : Prop := ∃ r, e = .returned (.bool r) ∧ (r = true → p)
/-- It returned a number that is not great. -/
def SmallInt (e : Ending) : Prop := ∃ t : Int, e = .returned (.int .i64 t) ∧ 0 ≤ t ∧ t ≤ 16777216

set_option maxHeartbeats 2000000 in
theorem bytes_any (B : Nat) (a0 a1 a3 : Option Addr) (n l1 l3 c0 c1 c3 : Nat) (k2 k4 k5 : Int) (ll : Nat → Nat) (Z : Nat → Nat → Int) (w : World) (hA : LinksAt B w a0 n ll Z) (hll : ∀ i, i < n → ll i ≤ maxLen) (h0 : n ≤ maxLen) (h1 : l1 ≤ maxLen) (h3 : l3 ≤ maxLen) :
    Calls Try.prog 17 #[.slice a0 n c0, .slice a1 l1 c1, .int .i32 k2, .slice a3 l3 c3, .int .i32 k4, .int .i32 k5] w fun e w' => SomeBool e ∧ w' = w := by
  unfold maxLen at *
  by_cases hl0 : (1048576 : Int) < n
  · go_enter Try.func17, Try.ntmps17
    go_wp2
    go_ret
    exact ⟨⟨_, rfl⟩, rfl⟩
  go_enter Try.func17, Try.ntmps17
  go_wp2
  go_loop [13, 14] (fun z i => ∃ k q : Nat, k ≤ n ∧ i = .int .i64 k ∧ z = .int .i64 q ∧ q ≤ 1048576) (fun _ i => n - (intOf i).toNat)
  case atStart => exact ⟨0, n, Nat.zero_le _, rfl, rfl, by omega⟩
  case round =>
    obtain ⟨k, q, hk, rfl, rfl, hq⟩ := hrel
    by_cases hlt : k < n
    · obtain ⟨b, off, A, C, rfl, hbB, hc, _⟩ := hA k hlt
      have hlk := hll k hlt
      have hI : (k : Int) < (n : Int) := by omega
      clear hA hll
      by_cases hz : (1048576 : Int) < (ll k : Int)
      · go_wp2
        go_ret
        exact ⟨⟨_, rfl⟩, rfl⟩
      · by_cases hz2 : (1048576 : Int) < (q : Int) + (ll k : Int)
        · go_wp2
          go_ret
          exact ⟨⟨_, rfl⟩, rfl⟩
        · go_wp2
          go_round
          case rel => exact ⟨k + 1, q + ll k, by omega, by go_num, by go_num, by omega⟩
          case measure => simp [intOf]; omega
    · clear hA hll
      go_wp2
      all_goals
        go_ret
        exact ⟨⟨_, rfl⟩, rfl⟩

set_option maxHeartbeats 1000000 in
theorem linksBytes_any (B : Nat) (a0 : Option Addr) (n c0 : Nat) (ll : Nat → Nat) (Z : Nat → Nat → Int) (w : World) (hA : LinksAt B w a0 n ll Z) (hll : ∀ i, i < n → ll i ≤ maxLen) (h0 : n ≤ 1048576) :
    Calls Try.prog 9 #[.slice a0 n c0] w fun e w' => SmallInt e ∧ w' = w := by
  unfold maxLen at *
  go_enter Try.func9, Try.ntmps9
  go_wp2
  go_loop [3, 4] (fun z i => ∃ k q : Nat, k ≤ n ∧ i = .int .i64 k ∧ z = .int .i64 q ∧ q ≤ 8388608) (fun _ i => n - (intOf i).toNat)
  case atStart => exact ⟨0, 8 * n, Nat.zero_le _, rfl, by go_num, by omega⟩
  case round =>
    obtain ⟨k, q, hk, rfl, rfl, hq⟩ := hrel
    by_cases hlt : k < n
    · obtain ⟨b, off, A, C, rfl, hbB, hc, _⟩ := hA k hlt
      have hlk := hll k hlt
      have hI : (k : Int) < (n : Int) := by omega
      clear hA hll
      by_cases hz : (1048576 : Int) < (ll k : Int)
      · go_wp2
        go_ret
        exact ⟨⟨_, rfl, by omega, by omega⟩, rfl⟩
      · by_cases hz2 : (1048576 : Int) < (q : Int) + 4 * (ll k : Int)
        · go_wp2
          go_ret
          exact ⟨⟨_, rfl, by omega, by omega⟩, rfl⟩
        · go_wp2
          go_round
          case rel => exact ⟨k + 1, q + 4 * ll k, by omega, by go_num, by go_num, by omega⟩
          case measure => simp [intOf]; omega
    · clear hA hll
      go_wp2
      go_ret
      exact ⟨⟨_, rfl, by omega, by omega⟩, rfl⟩

/-- Every entry of every row lies in [0, m). -/
def InRange (n m : Nat) (ll : Nat → Nat) (Z : Nat → Nat → Int) : Prop := ∀ i, i < n → ∀ j, j < ll i → 0 ≤ Z i j ∧ Z i j < m

set_option maxHeartbeats 1000000 in
theorem inRange_any (B : Nat) (a0 : Option Addr) (n c0 m : Nat) (ll : Nat → Nat) (Z : Nat → Nat → Int) (w : World) (hA : LinksAt B w a0 n ll Z) (hll : ∀ i, i < n → ll i ≤ maxLen) (h0 : n ≤ 1048576) (hZ : ∀ i j, i < n → j < ll i → -2147483648 ≤ Z i j ∧ Z i j ≤ 2147483647) :
    Calls Try.prog 10 #[.slice a0 n c0, .int .i64 m] w fun e w' => SaidSo (InRange n m ll Z) e ∧ w' = w := by
  unfold maxLen at *
  go_enter Try.func10, Try.ntmps10
  go_wp2
  go_loop [5] (fun i => ∃ k : Nat, k ≤ n ∧ i = .int .i64 k ∧ InRange k m ll Z) (fun i => n - (intOf i).toNat)
  case atStart => exact ⟨0, Nat.zero_le _, rfl, fun i hi => absurd hi (Nat.not_lt_zero _)⟩
  case round =>
    obtain ⟨k, hk, rfl, hin⟩ := hrel
    have HI : Hid (InRange k m ll Z) := hin
    clear hin
    by_cases hlt : k < n
    · obtain ⟨b, off, A, C, rfl, hbB, hc, hrow⟩ := hA k hlt
      have hlk := hll k hlt
      have hI : (k : Int) < (n : Int) := by omega
      have hZk := fun j => hZ k j hlt
      clear hA hll hZ
      go_wp2
      go_loop [7] (fun i => ∃ j : Nat, j ≤ ll k ∧ i = .int .i64 j ∧ ∀ x, x < j → 0 ≤ Z k x ∧ Z k x < m) (fun i => ll k - (intOf i).toNat)
      case atStart => exact ⟨0, Nat.zero_le _, rfl, fun i hi => absurd hi (Nat.not_lt_zero _)⟩
      case round =>
        obtain ⟨j, hj, rfl, hin2⟩ := hrel
        have HJ : Hid (∀ x, x < j → 0 ≤ Z k x ∧ Z k x < m) := hin2
        clear hin2
        by_cases hltj : j < ll k
        · obtain ⟨b', off', rfl, _, hcj⟩ := hrow j hltj
          have hb1 := (hZk j hltj).1
          have hb2 := (hZk j hltj).2
          have hIj : (j : Int) < (ll k : Int) := by omega
          clear hrow hZk
          by_cases hneg : Z k j < 0
          · go_wp2
            go_ret
            exact ⟨⟨_, rfl, fun h => by cases h⟩, rfl⟩
          · by_cases hge : (m : Int) ≤ Z k j
            · go_wp2
              go_ret
              exact ⟨⟨_, rfl, fun h => by cases h⟩, rfl⟩
            · go_wp2
              go_round
              case rel =>
                refine ⟨j + 1, by omega, by go_num, fun x hx => ?_⟩
                by_cases e : x = j
                · subst e; omega
                · exact HJ.out x (by omega)
              case measure => simp [intOf]; omega
        · clear hrow hZk
          go_wp2
          go_round
          case rel =>
            refine ⟨k + 1, by omega, by go_num, fun i hi => ?_⟩
            by_cases e : i = k
            · subst e; exact fun x hx => HJ.out x (by omega)
            · exact HI.out i (by omega)
          case measure => simp [intOf]; omega
    · clear hA hll hZ
      go_wp2
      go_ret
      exact ⟨⟨_, rfl, fun _ i hi => HI.out i (by omega)⟩, rfl⟩

end Go.Proofs.Qxb6603240a
