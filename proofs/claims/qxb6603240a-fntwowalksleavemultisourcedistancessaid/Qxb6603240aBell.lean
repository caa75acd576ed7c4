/-
  THE PLAIN LAW OF THE RELAXATION'S ROUNDS, and what the memory holds in them.
-/
import Derived.Test.Qxb6603240aZZ
import Derived.Test.Qxb6603240aLens
namespace Go.Proofs.Qxb6603240a
open Go.RowKit Plain

section
variable {n : Nat} {ll : Nat → Nat} {Z : Nat → Nat → Int} {S : Nat → Prop} {r y j z : Nat} {c : Bool} {dd : Nat → Int}

/-- In the midst of a round: the places before y are done. -/
structure Rnd (n : Nat) (ll : Nat → Nat) (Z : Nat → Nat → Int) (S : Nat → Prop) (r y : Nat) (c : Bool) (dd : Nat → Int) : Prop where
  bf : Bf (Adj n ll Z) n S dd
  upr : Upto (Adj n ll Z) S r dd
  prog : ∀ x, x < y → ∀ z, Adj n ll Z x z → Plain.Reach (Adj n ll Z) S r x → 0 ≤ dd z ∧ dd z ≤ r + 1
  clos : c = false → ∀ x, x < y → 0 ≤ dd x → ∀ z, Adj n ll Z x z → 0 ≤ dd z ∧ dd z ≤ dd x + 1

/-- In the midst of the links of y: the first j are done. -/
structure Links (n : Nat) (ll : Nat → Nat) (Z : Nat → Nat → Int) (S : Nat → Prop) (r y : Nat) (c : Bool) (dd : Nat → Int) (j : Nat) : Prop where
  rnd : Rnd n ll Z S r y c dd
  posm : 0 ≤ dd y
  cur : ∀ x, x < j → ∀ z : Nat, Z y x = z → (Plain.Reach (Adj n ll Z) S r y → 0 ≤ dd z ∧ dd z ≤ r + 1) ∧ (c = false → 0 ≤ dd z ∧ dd z ≤ dd y + 1)

theorem rnd_start (h : Bf (Adj n ll Z) n S dd) (hU : Upto (Adj n ll Z) S r dd) : Rnd n ll Z S r 0 false dd := ⟨h, hU, fun _ hx => absurd hx (Nat.not_lt_zero _), fun _ _ hx => absurd hx (Nat.not_lt_zero _)⟩

theorem rnd_skip (h : Rnd n ll Z S r y c dd) (hy : dd y < 0) : Rnd n ll Z S r (y + 1) c dd := by
  refine ⟨h.bf, h.upr, fun x hx z hA hR => ?_, fun hc x hx h0 z hA => ?_⟩
  · by_cases e : x = y
    · subst e
      have := h.upr r (Nat.le_refl _) x hR
      omega
    · exact h.prog x (by omega) z hA hR
  · by_cases e : x = y
    · subst e; omega
    · exact h.clos hc x (by omega) h0 z hA

theorem links_start (h : Rnd n ll Z S r y c dd) (hy : 0 ≤ dd y) : Links n ll Z S r y c dd 0 := ⟨h, hy, fun _ hx => absurd hx (Nat.not_lt_zero _)⟩

theorem links_relax (h : Links n ll Z S r y c dd j) (hy : y < n) (hj : j < ll y) (hz : Z y j = z) (hzn : z < n) (ht : dd z < 0 ∨ dd y + 1 < dd z) : Links n ll Z S r y true (upd dd z (dd y + 1)) (j + 1) := by
  have hA : Adj n ll Z y z := ⟨hy, j, hj, hz⟩
  obtain ⟨h1, h2⟩ := bf_relax h.rnd.bf hzn hA hy h.posm ht
  refine ⟨⟨h1, h.rnd.upr.better h2, fun x hx z' hA' hR => ?_, fun e => by cases e⟩, ?_, fun x hx z' hz' => ⟨fun hR => ?_, fun e => by cases e⟩⟩
  · have h3 := h.rnd.prog x hx z' hA' hR
    have h4 := h2 z' h3.1
    omega
  · exact (h2 y h.posm).1
  · by_cases e : x = j
    · subst e
      obtain rfl : z' = z := by omega
      rw [upd_same]
      have h3 := h.rnd.upr r (Nat.le_refl _) y hR
      omega
    · have h3 := (h.cur x (by omega) z' hz').1 hR
      have h4 := h2 z' h3.1
      omega

theorem links_pass (h : Links n ll Z S r y c dd j) (hz : Z y j = z) (h1 : ¬ dd z < 0) (h2 : ¬ dd y + 1 < dd z) : Links n ll Z S r y c dd (j + 1) := by
  refine ⟨h.rnd, h.posm, fun x hx z' hz' => ?_⟩
  by_cases e : x = j
  · subst e
    obtain rfl : z' = z := by omega
    refine ⟨fun hR => ?_, fun _ => by omega⟩
    have h3 := h.rnd.upr r (Nat.le_refl _) y hR
    omega
  · exact h.cur x (by omega) z' hz'

theorem links_end (h : Links n ll Z S r y c dd (ll y)) : Rnd n ll Z S r (y + 1) c dd := by
  refine ⟨h.rnd.bf, h.rnd.upr, fun x hx z hA hR => ?_, fun hc x hx h0 z hA => ?_⟩
  · by_cases e : x = y
    · subst e
      obtain ⟨_, j, hj, e⟩ := hA
      exact (h.cur j hj z e).1 hR
    · exact h.rnd.prog x (by omega) z hA hR
  · by_cases e : x = y
    · subst e
      obtain ⟨_, j, hj, e⟩ := hA
      exact (h.cur j hj z e).2 hc
    · exact h.rnd.clos hc x (by omega) h0 z hA

theorem rnd_next (hin : InRange n n ll Z) (h : Rnd n ll Z S r n c dd) : Upto (Adj n ll Z) S (r + 1) dd := upto_succ h.upr (adj_lt hin) fun y hy z hA hR => h.prog y hy z hA hR
theorem rnd_last (hin : InRange n n ll Z) (h : Rnd n ll Z S r n false dd) : ∀ k, Upto (Adj n ll Z) S k dd := upto_closed h.bf (adj_lt hin) fun y hy h0 z hA => h.clos rfl y hy h0 z hA
end

/-- What is known of the memory in the rounds. -/
structure DistAt (wD wr : World) (D n : Nat) (dd : Nat → Int) : Prop where
  below : Below D wD wr
  ints : Ints wr D n dd

theorem DistAt.put {wD wr : World} {D n z : Nat} {dd : Nat → Int} (h : DistAt wD wr D n dd) (hz : z < n) (v : Int) : DistAt wD (wr.setCell ⟨D, z, none⟩ (.int .i32 v)) D n (upd dd z v) := ⟨h.below.setCell (p := ⟨D, z, none⟩) (Nat.le_refl _) _, h.ints.put hz v⟩
theorem DistAt.drewN {wD wr : World} {D n : Nat} {dd : Nat → Int} (h : DistAt wD wr D n dd) (k : Nat) : DistAt wD (wr.drewN k) D n dd := ⟨h.below.trans (below_drewN _ _ _), ⟨h.ints.lt, h.ints.cell, h.ints.free⟩⟩

def RoundAt (wD wr : World) (D n : Nat) (ll : Nat → Nat) (Z : Nat → Nat → Int) (S : Nat → Prop) (r : Nat) : Prop := ∃ dd, DistAt wD wr D n dd ∧ Bf (Adj n ll Z) n S dd ∧ Upto (Adj n ll Z) S r dd
def RndAt (wD wr : World) (D n : Nat) (ll : Nat → Nat) (Z : Nat → Nat → Int) (S : Nat → Prop) (r y : Nat) (c : Bool) : Prop := ∃ dd, DistAt wD wr D n dd ∧ Rnd n ll Z S r y c dd
def LinkAt (wD wr : World) (D n : Nat) (ll : Nat → Nat) (Z : Nat → Nat → Int) (S : Nat → Prop) (r y : Nat) (c : Bool) (j : Nat) : Prop := ∃ dd, DistAt wD wr D n dd ∧ Links n ll Z S r y c dd j

/-- A queue's clone: nil, or one's own. -/
def QueueClone (w w' : World) (H1 : Nat) (e : Ending) : Prop :=
  ∃ qa ql qc QB, e = .returned (.slice qa ql qc) ∧ Below w.heap.size w w' ∧ qc ≤ 1048576 ∧ QueueOk w' H1 qa qc QB ∧ QB < w'.heap.size ∧ ∀ x, qa = some x → w.heap.size ≤ QB

theorem cloneQueue (A : Option Addr) (n c H1 : Nat) (X : Nat → Int) (w : World) (hn : n ≤ 1048576) (hH : H1 ≤ w.heap.size) (hpos : 0 < w.heap.size) (hA : RowAt w.heap.size w A n X) : Calls Try.prog 12 #[.slice A n c] w fun e w' => QueueClone w w' H1 e := by
  cases A with
  | none => exact (cloneI32_nil n c w).mono fun e w' ⟨h1, h2⟩ => by subst h2; exact ⟨none, 0, 0, 0, h1, Below.refl _ _, by omega, .inl ⟨rfl, rfl⟩, hpos, fun x hx => by cases hx⟩
  | some ad => exact (cloneI32_some ad n c X w hn hA).mono fun e w' ⟨h1, h2, h3, h4⟩ => ⟨_, _, _, w.heap.size, h1, h2, hn, .inr ⟨rfl, h4.pool, hH⟩, h4.lt, fun x _ => Nat.le_refl _⟩

end Go.Proofs.Qxb6603240a
