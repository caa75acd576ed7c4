/-
  PLAIN LAWS ON MEMORY FOR THIS SEAT: ranges behind new blocks; a new variable of many cells whose world is a letter.
-/
import Derived.Test.Qxb6602710aRows
import Derived.WalkKit
import Derived.WalkSpells
import Derived.WalkLawsBesides
import Derived.Deep.MidRow
import Derived.Stop.BytesEq
import Derived.Deep.QuietTactic
import Derived.BigQuiet
namespace Go.Proofs.Qxb6602710a
open Go.RowKit
open Go.Extern.Stop (cell)

theorem Try.cells29 : Try.prog.cellsOf 29 = 32 := by kernel_rfl
theorem Try.cells31 : Try.prog.cellsOf 31 = 32 := by kernel_rfl
theorem Try.cells33 : Try.prog.cellsOf 33 = 34 := by kernel_rfl
theorem Try.size31 : (Try.prog.info? 31).map (·.size) = some 32 := by kernel_rfl
theorem Try.size29 : (Try.prog.info? 29).map (·.size) = some 32 := by kernel_rfl
theorem Try.size33 : (Try.prog.info? 33).map (·.size) = some 34 := by kernel_rfl

theorem below_range {B : Nat} {w w' : World} (h : Below B w w') {b o : Nat} {cs : List Value} (hb : b < B) (hr : w.rangeAt b o cs) : w'.rangeAt b o cs := fun j v hv => by
  rw [h.cell (p := ⟨b, o + j, none⟩) hb]; exact hr j v hv
theorem below_there {B : Nat} {w w' : World} (h : Below B w w') {b o n : Nat} (hb : b < B) (hr : w.there b o n) : w'.there b o n := fun j hj => by
  rw [h.cell (p := ⟨b, o + j, none⟩) hb, h.frozen (p := ⟨b, o + j, none⟩) hb]; exact hr j hj
theorem below_setCells {B : Nat} {a w : World} (h : Below B a w) (b : Nat) (hb : B ≤ b) : ∀ (vs : List Value) (o : Nat), Below B a (w.setCells b o vs) := by
  intro vs
  induction vs generalizing w with
  | nil => intro o; exact h
  | cons v r ih => intro o; exact ih (h.setCell (p := ⟨b, o, none⟩) hb v) (o + 1)
theorem below_drewN' (B : Nat) (w : World) (k : Nat) : Below B w (w.drewN k) := ⟨rfl, rfl, rfl, Nat.le_refl _, fun _ _ => rfl⟩

/-- A new block of n cells, at the heap's end. -/
structure NewBlock (w w' : World) (n : Nat) : Prop where
  below : Below w.heap.size w w'
  size : w'.heap.size = w.heap.size + 1
  there : w'.there w.heap.size 0 n

theorem newBlock_alloc (w : World) (C : Array Value) (t : TypeId) : NewBlock w (w.alloc (.cells C t)) C.size := by
  refine ⟨(Below.refl _ _).alloc (Nat.le_refl _) _, by simp, fun j hj => ?_⟩
  rw [World.cell?_alloc_at C t w.heap.size (0 + j) rfl, World.frozen?_alloc_at C t w.heap.size (0 + j) rfl]
  simp [hj]

/-- 'alloc': the world behind it is a letter. -/
theorem wpList_alloc_new {P : Program} {ops : Array Oper} {rest : List Oper} {op : Oper} {a : Act} {w : World} {Q : Exit → Act → World → Prop} (hgd : op.guard = none) (t : TypeId) (ho : op.op = .alloc t)
    (z : Value) (n : Nat) (hz : (P.info? t).map (·.zero) = some (some z)) (hn : z.cells.size = n)
    (h : ∀ w', NewBlock w w' n → wpList P ops Q rest (a.put op.dst (.pointer (some ⟨w.heap.size, 0, none⟩))) w') : wpList P ops Q (op :: rest) a w :=
  wpList_plain hgd fun K hK => by
    cases hq : P.info? t with
    | none => simp [hq] at hz
    | some i =>
      have hi : i.zero = some z := by simpa [hq] using hz
      unfold Oper.wp execOp
      simp only [ho]
      have := h _ (hn ▸ newBlock_alloc w z.cells t)
      simp [Instr.alloc, zeroValue, typeInfo, hq, hi, newVar, newRow]
      exact hK _ _ this

/-- 'make([]T, n)': a new block of n * size cells; the world behind it is a letter. -/
theorem wpList_make_new {P : Program} {ops : Array Oper} {rest : List Oper} {op : Oper} {a : Act} {w : World} {Q : Exit → Act → World → Prop} (hgd : op.guard = none) (t e : TypeId) (x : Operand) (ho : op.op = .makeSlice t x x)
    (ht : P.underlying t = some (.slice e)) (z : Value) (hz : (P.info? e).map (·.zero) = some (some z)) (size bytes : Nat) (hs : (P.info? e).map (fun i => (i.size, i.bytes)) = some (size, bytes))
    (n : Nat) (hx : a.eval x = .int .i64 n) (hb : bytes * n ≤ 281474976710656) (h63 : n ≤ 9223372036854775807)
    (h : ∀ w', NewBlock w w' (n * size) → wpList P ops Q rest (a.put op.dst (.slice (some ⟨w.heap.size, 0, none⟩) n n)) w') : wpList P ops Q (op :: rest) a w :=
  wpList_plain hgd fun K hK => by
    cases hq : P.info? e with
    | none => simp [hq] at hz
    | some i =>
      have hi : i.zero = some z := by simpa [hq] using hz
      have hs' : i.size = size ∧ i.bytes = bytes := by simpa [hq] using hs
      obtain ⟨rfl, rfl⟩ := hs'
      have hbI : (i.bytes : Int) * (n : Int) ≤ 281474976710656 := by
        have h : ((i.bytes * n : Nat) : Int) ≤ 281474976710656 := by omega
        simpa using h
      have hrun := run_make (P := P) w t e i z ht hq hi .i64 .i64 n n (by omega) (Int.le_refl _) hbI (by omega)
      simp only [Int.toNat_natCast] at hrun
      unfold Oper.wp execOp
      simp only [ho, hx]
      rw [Sem.run_bind, hrun]
      have hnb := newBlock_alloc w (madeCells z.cells (n * i.size)) e
      rw [size_madeCells] at hnb
      exact hK _ _ (h _ hnb)

theorem there_sub {w : World} {b o n o' n' : Nat} (h : w.there b o n) (h1 : o ≤ o') (h2 : o' + n' ≤ o + n) : w.there b o' n' := fun j hj => by
  have := h (o' - o + j) (by omega)
  rwa [show o + (o' - o + j) = o' + j from by omega] at this

/-- Cells were stored into block b from o on; the world is a letter. -/
structure Stored (w w' : World) (b o : Nat) (cs : List Value) : Prop where
  below : Below b w w'
  range : w'.rangeAt b o cs
  there : ∀ b' o' n, w.there b' o' n → w'.there b' o' n

theorem stored_of (w : World) (b o : Nat) (cs : List Value) (ht : w.there b o cs.length) : Stored w (w.setCells b o cs) b o cs :=
  ⟨below_setCells (Below.refl _ _) _ (Nat.le_refl _) _ _, World.rangeAt_setCells_same _ _ _ _ ht, fun _ _ _ h => World.there_setCells h _ _ _⟩

theorem wpList_store_letter {P : Program} {ops : Array Oper} {rest : List Oper} {op : Oper} {a : Act} {w : World} {Q : Exit → Act → World → Prop} (hgd : op.guard = none) (ty : TypeId) (x y : Operand) (ho : op.op = .store ty x y)
    (b o : Nat) (cs : List Value) (hx : a.eval x = .pointer (some ⟨b, o, none⟩)) (hy : a.eval y = .agg cs.toArray)
    (n : Nat) (hn : cs.length = n) (ht : w.there b o n) (hi : (P.info? ty).map (·.size) = some n) (h1 : ∀ v ∈ cs, v.oneCell' = true)
    (h : ∀ w', Stored w w' b o cs → wpList P ops Q rest (a.put op.dst undef) w') : wpList P ops Q (op :: rest) a w := by
  subst hn
  exact wpList_store_mid hgd ty x y ho b o cs.toArray hx hy (by simpa using ht) (by simpa using hi) (all_oneCell_toArray h1) (h _ (stored_of w b o cs ht))

/-- Row k is stored behind rows 0 .. k-1. -/
theorem rows_step {wr : World} {G s k n : Nat} {V : Nat → List Value} (hl : ∀ i, i ≤ k → (V i).length = s) (hth : wr.there G 0 (n * s)) (hk : k < n) (hdone : ∀ i, i < k → wr.rangeAt G (i * s) (V i)) :
    ∀ i, i < k + 1 → (wr.setCells G (k * s) (V k)).rangeAt G (i * s) (V i) := by
  intro i hi
  have hkn : (k + 1) * s ≤ n * s := Nat.mul_le_mul_right _ hk
  rw [Nat.add_mul, Nat.one_mul] at hkn
  by_cases e : i = k
  · subst e
    exact World.rangeAt_setCells_same _ _ _ _ (by rw [hl i (Nat.le_refl _)]; exact there_sub hth (by omega) (by omega))
  · have hik : (i + 1) * s ≤ k * s := Nat.mul_le_mul_right _ (by omega)
    rw [Nat.add_mul, Nat.one_mul] at hik
    exact World.rangeAt_setCells_apart (hdone i (by omega)) _ _ _ (by rw [hl i (by omega)]; omega)

theorem size_setCells_le (wr : World) (G o : Nat) (vs : List Value) : wr.heap.size ≤ (wr.setCells G o vs).heap.size := (below_setCells (Below.refl 0 wr) G (Nat.zero_le _) vs o).size

theorem build_watch (cs : List Value) (hl : cs.length = 32) (n : Int) (b : Bool) (w : World) :
    (Instr.build 33 #[(0, .agg cs.toArray), (1, .int .i64 n), (2, .bool b)]).run Try.prog w = .ok (.agg (cs ++ [Value.int .i64 n, Value.bool b]).toArray) w := by
  match cs, hl with
  | [c0, c1, c2, c3, c4, c5, c6, c7, c8, c9, c10, c11, c12, c13, c14, c15, c16, c17, c18, c19, c20, c21, c22, c23, c24, c25, c26, c27, c28, c29, c30, c31], _ =>
    show (Instr.build 33 _).run Try.prog w = _
    kernel_rfl

theorem wpList_build_watch {ops : Array Oper} {rest : List Oper} {op : Oper} {a : Act} {w : World} {Q : Exit → Act → World → Prop} (hgd : op.guard = none) (x y z : Operand) (ho : op.op = .build 33 #[(0, x), (1, y), (2, z)])
    (cs : List Value) (hl : cs.length = 32) (n : Int) (b : Bool) (hx : a.eval x = .agg cs.toArray) (hy : a.eval y = .int .i64 n) (hz : a.eval z = .bool b)
    (h : wpList Try.prog ops Q rest (a.put op.dst (.agg (cs ++ [Value.int .i64 n, Value.bool b]).toArray)) w) : wpList Try.prog ops Q (op :: rest) a w :=
  wpList_plain hgd fun K hK => by
    unfold Oper.wp execOp
    simp only [ho, List.map_toArray, List.map_cons, List.map_nil, hx, hy, hz]
    rw [Sem.run_bind, build_watch cs hl n b w]
    exact hK _ _ h

theorem results_cell_mid {P : Program} {fn : Func} {p : Tmp} {ty : TypeId} (h : fn.results = #[.cell p ty]) (tmps : Array Value) (w : World) (b o : Nat) (cs : List Value) (d : TypeDesc)
    (hp : tmps.getD p undef = .pointer (some ⟨b, o, none⟩)) (hc : w.rangeAt b o cs)
    (hu : P.underlying ty = some d) (hd : d.isRow = true) (hi : (P.info? ty).map (·.size) = some cs.length) :
    (results fn tmps).run P w = .ok (.agg cs.toArray) w := by
  have hp' : tmps[p]?.getD undef = .pointer (some ⟨b, o, none⟩) := by simpa using hp
  simp [results, h, hp', asAddr, run_loadVar_mid w b o ty cs d hc hu hd hi]

/-- A load of many cells in a quiet walk. -/
theorem quiet_load_mid {P : Program} {o : Oper} {a : Act} {C : World → Prop} {K : Act → Prop} (ty : TypeId) (x : Operand) (ho : o.op = .load ty x)
    (b f : Nat) (hx : a.eval x = .pointer (some ⟨b, f, none⟩)) (cs : List Value) (d : TypeDesc) (hc : ∀ w, C w → w.rangeAt b f cs)
    (hu : P.underlying ty = some d) (hd : d.isRow = true) (hi : (P.info? ty).map (·.size) = some cs.length)
    (h : K (a.put o.dst (.agg cs.toArray))) : o.quiet P a C K :=
  ⟨_, fun w hw => by
    unfold Oper.quietAt execOp
    simp only [ho, hx, Instr.loadAt, Instr.sureAddr, Sem.run_bind, Sem.run_pure, Result.andThen_ok, run_loadVar_mid w b f ty cs d (hc w hw) hu hd hi]
    exact ⟨rfl, rfl⟩, h⟩

theorem zero33 : ((Try.prog.info? 33).map (·.zero)) = some (some (.agg ((List.replicate 32 (Value.int .u8 0)) ++ [Value.int .i64 0, Value.bool false]).toArray)) := by kernel_rfl
theorem zero29 : ((Try.prog.info? 29).map (·.zero)) = some (some (.agg (List.replicate 32 (Value.int .u8 0)).toArray)) := by kernel_rfl

end Go.Proofs.Qxb6602710a
