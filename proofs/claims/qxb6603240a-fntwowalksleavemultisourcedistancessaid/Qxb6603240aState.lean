/-
  LAWS ON THE MEMORY IN A WALK: numbers of one's own, written; what is kept.
-/
import Derived.Test.Qxb6603240aGrow
import Derived.Test.Qxb6603240aPlain
namespace Go.Proofs.Qxb6603240a
open Go.RowKit Plain

theorem Ints.put {w : World} {G n i : Nat} {X : Nat → Int} (h : Ints w G n X) (hi : i < n) (v : Int) : Ints (w.setCell ⟨G, i, none⟩ (.int .i32 v)) G n (upd X i v) := by
  refine ⟨by simpa using h.lt, fun j hj => ?_, fun j hj => by simpa using h.free j hj⟩
  by_cases e : j = i
  · subst e; rw [upd_same]; exact World.cell?_setCell_same _ _ _ (h.cell j hj)
  · rw [upd_other _ _ _ e, World.cell?_setCell_other _ _ _ _ (by intro h; simp at h <;> omega)]
    exact h.cell j hj

theorem Ints.past {w : World} {G n b i : Nat} {X : Nat → Int} {v : Value} (h : Ints w G n X) (hb : G ≠ b) : Ints (w.setCell ⟨b, i, none⟩ v) G n X := by
  refine ⟨by simpa using h.lt, fun j hj => ?_, fun j hj => by simpa using h.free j hj⟩
  rw [World.cell?_setCell_other _ _ _ _ (by intro h; simp at h <;> omega)]
  exact h.cell j hj

/-- The blocks in P are as they were. -/
def Keeps (P : Nat → Prop) (w w' : World) : Prop := ∀ b, P b → w'.heap[b]? = w.heap[b]?

theorem Keeps.refl (P : Nat → Prop) (w : World) : Keeps P w w := fun _ _ => rfl
theorem Keeps.trans {P : Nat → Prop} {a b c : World} (h : Keeps P a b) (k : Keeps P b c) : Keeps P a c := fun i hi => (k i hi).trans (h i hi)
theorem Keeps.put {P : Nat → Prop} {a w : World} (h : Keeps P a w) {b i : Nat} (hb : ¬ P b) (v : Value) : Keeps P a (w.setCell ⟨b, i, none⟩ v) := fun k hk => (Below.heap_setCell w _ v k (fun e => hb (by rw [← show k = b from e]; exact hk))).trans (h k hk)
theorem Keeps.of_below {P : Nat → Prop} {B : Nat} {w w' : World} (h : Below B w w') (hP : ∀ b, P b → b < B) : Keeps P w w' := fun b hb => h.block b (hP b hb)
theorem Keeps.less {P Q : Nat → Prop} {w w' : World} (h : Keeps P w w') (hQ : ∀ b, Q b → P b) : Keeps Q w w' := fun b hb => h b (hQ b hb)
theorem Keeps.cell {P : Nat → Prop} {w w' : World} (h : Keeps P w w') {p : Addr} (hp : P p.block) : w'.cell? p = w.cell? p := World.cell?_of_block (w := w) (h p.block hp)
theorem Keeps.frozen {P : Nat → Prop} {w w' : World} (h : Keeps P w w') {p : Addr} (hp : P p.block) : w'.frozen? p = w.frozen? p := World.frozen?_of_block (w := w) (h p.block hp)
theorem Ints.kept {P : Nat → Prop} {w w' : World} {G n : Nat} {X : Nat → Int} (h : Ints w G n X) (k : Keeps P w w') (hG : P G) (hs : w.heap.size ≤ w'.heap.size) : Ints w' G n X :=
  ⟨Nat.lt_of_lt_of_le h.lt hs, fun i hi => (k.cell (p := ⟨G, i, none⟩) hG).trans (h.cell i hi), fun i hi => (k.frozen (p := ⟨G, i, none⟩) hG).trans (h.free i hi)⟩

theorem Pool.ints {w : World} {G c : Nat} (h : Pool w G c) : ∃ X, Ints w G c X := by
  refine ⟨fun i => if hi : i < c then Classical.choose (h.cell i hi) else 0, h.lt, fun i hi => ?_, h.free⟩
  simp only [dif_pos hi]
  exact Classical.choose_spec (h.cell i hi)
theorem Ints.pool {w : World} {G c : Nat} {X : Nat → Int} (h : Ints w G c X) : Pool w G c := ⟨h.lt, fun i hi => ⟨_, h.cell i hi⟩, h.free⟩

/-- The negative of a number of 32 bits. -/
theorem wpList_neg {P : Program} {ops : Array Oper} {rest : List Oper} {op : Oper} {a : Act} {w : World} {Q : Exit → Act → World → Prop} (hgd : op.guard = none) (t : TypeId) (x : Operand) (ho : op.op = .unOp .neg t x)
    (lift base : Int) (hx : a.eval x = .int .i32 lift) (hb : IntKind.i32.wrap (0 - lift) = base)
    (h : wpList P ops Q rest (a.put op.dst (.int .i32 base)) w) : wpList P ops Q (op :: rest) a w :=
  wpList_plain hgd fun K hK => by
    subst hb
    unfold Oper.wp execOp
    simp only [ho, hx, Op.unary, Op.intArith]
    exact hK _ _ h

/-- y and z are linked. -/
def Adj (n : Nat) (ll : Nat → Nat) (Z : Nat → Nat → Int) (y z : Nat) : Prop := y < n ∧ ∃ j, j < ll y ∧ Z y j = (z : Int)

theorem adj_lt {n : Nat} {ll : Nat → Nat} {Z : Nat → Nat → Int} (h : InRange n n ll Z) : ∀ y z, Adj n ll Z y z → y < n ∧ z < n := fun y z ⟨hy, j, hj, e⟩ => ⟨hy, by have := h y hy j hj; omega⟩

/-- Grow, told for a queue that is nil or one's own. -/
def QueueOk (w : World) (H1 : Nat) (qa : Option Addr) (c QB : Nat) : Prop := (qa = none ∧ c = 0) ∨ (qa = some ⟨QB, 0, none⟩ ∧ Pool w QB c ∧ H1 ≤ QB)

/-- What Grow answers. -/
def Grew (w : World) (H1 QB N : Nat) (qa : Option Addr) (e : Ending) (w' : World) : Prop :=
  ∃ Q G, e = .returned (.slice (some ⟨Q, 0, none⟩) 0 G) ∧ N ≤ G ∧ G ≤ 9223372036854775807 ∧ Below w.heap.size w w' ∧ Pool w' Q G ∧ H1 ≤ Q ∧ ((qa = some ⟨QB, 0, none⟩ ∧ Q = QB) ∨ w.heap.size ≤ Q)

theorem grow_any (qa : Option Addr) (c N QB H1 : Nat) (w : World) (hN : N ≤ 1048577) (hN1 : 1 ≤ N) (hc : c ≤ 9223372036854775807) (hH : H1 ≤ w.heap.size) (hq : QueueOk w H1 qa c QB) :
    Calls Try.prog 24 #[.slice qa 0 c, .int .i64 N] w fun e w' => Grew w H1 QB N qa e w' := by
  rcases hq with ⟨rfl, rfl⟩ | ⟨rfl, hp, hH1⟩
  · refine (grow_new none 0 N [] w hN (by omega) rfl (fun _ => rfl) (fun a h => by cases h) (fun v hv => by cases hv)).mono ?_
    rintro e w' ⟨G, h1, h2, h3, h4, h5⟩
    exact ⟨_, G, h1, h2, h3, h4, h5, hH, .inr (Nat.le_refl _)⟩
  · by_cases hr : N ≤ c
    · refine (grow_room _ c N w hc hN hr).mono ?_
      rintro e w' ⟨h1, rfl⟩
      exact ⟨QB, c, h1, hr, hc, Below.refl _ _, hp, hH1, .inl ⟨rfl, rfl⟩⟩
    · obtain ⟨X, hX⟩ := hp.ints
      refine (grow_new (some ⟨QB, 0, none⟩) c N ((List.range c).map fun i => .int .i32 (X i)) w hN (by omega) (by simp) (fun h => by cases h) (fun a ha j v hj => ?_) (fun v hv => ?_)).mono ?_
      · cases ha
        have hjc : j < c := by
          have := (List.getElem?_eq_some_iff.1 hj).1
          simpa using this
        have hv : Value.int .i32 (X j) = v := by
          rw [List.getElem?_map, List.getElem?_range hjc] at hj
          simpa using hj
        rw [← hv]
        have := hX.cell j hjc
        by_cases h0 : j = 0
        · subst h0; simpa [Addr.add] using this
        · simpa [Addr.add, h0] using this
      · obtain ⟨i, _, rfl⟩ := List.mem_map.1 hv
        exact ⟨X i, rfl⟩
      · rintro e w' ⟨G, h1, h2, h3, h4, h5⟩
        exact ⟨_, G, h1, h2, h3, h4, h5, hH, .inr (Nat.le_refl _)⟩

end Go.Proofs.Qxb6603240a
