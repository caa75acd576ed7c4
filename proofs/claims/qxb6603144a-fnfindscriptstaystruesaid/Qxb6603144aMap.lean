/-
  THE TABLE's MAP, SAID PLAINLY: what its look-up and its length answer in every later world; and that a consistent map holds no other key than the entries.
-/
import Derived.Test.Qxb6603144aSame
import Derived.Maps.OwnSet
import Derived.ProofKit
namespace Go.Proofs.Qxb6603144a
open Go.RowKit

structure MapIs (B : Nat) (w : World) (mv : Option Nat) (N : Nat) (M : ByteArray → Option Int) : Prop where
  len : ∀ w', Below B w w' → ∀ ty, (Builtin.len_ #[27] ty #[.map mv]).run Try.prog w' = .ok (.int .i64 N) w'
  look : ∀ w', Below B w w' → ∀ s : ByteArray, s.size ≤ maxLen → (Instr.lookup 27 (.map mv) (.string s) true).run Try.prog w' = .ok (.tuple #[.int .u64 ((M s).getD 0), .bool (M s).isSome]) w'
  count : ∀ l : List ByteArray, l.Nodup → (∀ s ∈ l, (M s).isSome = true) → l.length ≤ N

/-- No list without repeats is longer than one that holds all its members. -/
theorem nodup_le {α : Type} : ∀ (l m : List α), l.Nodup → (∀ x ∈ l, x ∈ m) → l.length ≤ m.length
  | [], _, _, _ => Nat.zero_le _
  | x :: l, m, hn, hs => by
    classical
    obtain ⟨hx, hl⟩ := List.nodup_cons.1 hn
    have h1 := nodup_le l (m.erase x) hl (fun y hy => by
      have hne : y ≠ x := fun e => hx (e ▸ hy)
      exact (List.mem_erase_of_ne hne).2 (hs y (List.mem_cons_of_mem _ hy)))
    rw [List.length_erase_of_mem (hs x List.mem_cons_self)] at h1
    have : 0 < m.length := List.length_pos_of_mem (hs x List.mem_cons_self)
    simp only [List.length_cons]
    omega

/-- Images under a function that tells members apart. -/
theorem nodup_map {α β : Type} (f : α → β) : ∀ l : List α, l.Nodup → (∀ a, a ∈ l → ∀ b, b ∈ l → f a = f b → a = b) → (l.map f).Nodup
  | [], _, _ => List.nodup_nil
  | x :: l, hn, hi => by
    obtain ⟨hx, hl⟩ := List.nodup_cons.1 hn
    rw [List.map_cons, List.nodup_cons]
    refine ⟨fun hm => ?_, nodup_map f l hl (fun a ha b hb e => hi a (List.mem_cons_of_mem _ ha) b (List.mem_cons_of_mem _ hb) e)⟩
    obtain ⟨y, hy, e⟩ := List.mem_map.1 hm
    exact hx (hi y (List.mem_cons_of_mem _ hy) x List.mem_cons_self e ▸ hy)

/-- What 'b1Consistent' finds. -/
def Numbered (n : Nat) (E : Nat → ByteArray) (M : ByteArray → Option Int) : Prop := ∀ i, i < n → M (E i) = some (i : Int)

/-- A consistent map: a key that it holds is an entry, and its number the entry's place. -/
theorem only_entries {B N n : Nat} {w : World} {mv : Option Nat} {E : Nat → ByteArray} {M : ByteArray → Option Int} (hM : MapIs B w mv N M) (hN : N = n) (hE : Numbered n E M) {s : ByteArray} {c : Int} (hs : M s = some c) : ∃ i, i < n ∧ E i = s ∧ c = (i : Int) := by
  classical
  by_cases h : ∃ i, i < n ∧ E i = s
  · obtain ⟨i, hi, rfl⟩ := h
    have := hE i hi
    rw [hs] at this
    exact ⟨i, hi, rfl, Option.some.inj this⟩
  · exfalso
    have hnd : (s :: (List.range n).map E).Nodup := by
      rw [List.nodup_cons]
      refine ⟨fun hm => ?_, ?_⟩
      · obtain ⟨i, hi, e⟩ := List.mem_map.1 hm
        exact h ⟨i, by simpa using hi, e⟩
      · refine nodup_map E _ List.nodup_range (fun a ha b hb e => ?_)
        have h1 := hE a (by simpa using ha)
        have h2 := hE b (by simpa using hb)
        rw [e, h2] at h1
        have h3 := Option.some.inj h1
        omega
    have := hM.count _ hnd (fun x hx => by
      rcases List.mem_cons.1 hx with rfl | hx
      · simp [hs]
      · obtain ⟨i, hi, rfl⟩ := List.mem_map.1 hx
        simp [hE i (by simpa using hi)])
    simp at this
    omega

/-- The scan's answer is the map's. -/
theorem scan_map {B N n : Nat} {w : World} {mv : Option Nat} {E : Nat → ByteArray} {M : ByteArray → Option Int} (hM : MapIs B w mv N M) (hN : N = n) (hE : Numbered n E M) {s : ByteArray} {e : Ending} (h : Scan n E s e) :
    e = .returned (.tuple #[.int .u64 ((M s).getD 0), .bool (M s).isSome]) := by
  rcases h with ⟨i, hi, rfl, rfl⟩ | ⟨hno, rfl⟩
  · rw [hE i hi]; rfl
  · cases hm : M s with
    | none => rfl
    | some c =>
      obtain ⟨i, hi, he, _⟩ := only_entries hM hN hE hm
      exact absurd he (hno i hi)

/-! ### The laws at the two operations -/
section
variable {ops : Array Oper} {rest : List Oper} {o : Oper} {a : Act} {Q : Exit → Act → World → Prop} {w : World}

theorem wpList_len_map {B N : Nat} {w0 : World} {mv : Option Nat} {M : ByteArray → Option Int} (hM : MapIs B w0 mv N M) (hb : Below B w0 w) (hg : o.guard = none) (m : Operand) (hop : o.op = Op.call { callee := Callee.builtin Builtin.len, args := #[m], argTypes := #[27] })
    (hm : a.eval m = .map mv) (hK : wpList Try.prog ops Q rest (a.put o.dst (.int .i64 N)) w) : wpList Try.prog ops Q (o :: rest) a w := by
  refine wpList_plain hg fun K' hK' => ?_
  unfold Oper.wp
  simp [execOp, hop, resolve, invoke, builtin, hm, hM.len w hb o.type, Result.andThen]
  exact hK' _ _ hK

theorem wpList_look_map {B N : Nat} {w0 : World} {mv : Option Nat} {M : ByteArray → Option Int} (hM : MapIs B w0 mv N M) (hb : Below B w0 w) (hg : o.guard = none) (m x : Operand) (hop : o.op = Op.lookup 27 m x true)
    (hm : a.eval m = .map mv) (s : ByteArray) (hx : a.eval x = .string s) (hs : s.size ≤ maxLen) (v : Int) (ob : Bool) (hv : (M s).getD 0 = v) (hob : (M s).isSome = ob) (hK : wpList Try.prog ops Q rest (a.put o.dst (.tuple #[.int .u64 v, .bool ob])) w) : wpList Try.prog ops Q (o :: rest) a w := by
  subst hv
  subst hob
  refine wpList_plain hg fun K' hK' => ?_
  unfold Oper.wp
  simp [execOp, hop, hm, hx, hM.look w hb s hs, Result.andThen]
  exact hK' _ _ hK
end

/-! ### From the argument to 'MapIs' -/
theorem law : Maps.Keyed Try.prog 9 := Maps.string_keyed Try.underlying9
theorem zero25 (w : World) : (zeroValue 25).run Try.prog w = .ok (.int .u64 0) w := by kernel_rfl

theorem mapIs_nil (B : Nat) (w : World) : MapIs B w none 0 (fun _ => none) where
  len := fun _ _ ty => Maps.len_nil (k := 9) (e := 25) Try.underlying27 ty
  look := fun w' _ s hs => Maps.look_nil true law Try.underlying27 (zero25 w') (Go.WideMaps.keyOf_string_mk Try.underlying9 hs)
  count := fun l _ h => by
    cases l with
    | nil => simp
    | cons x l => exact absurd (h x List.mem_cons_self) (by simp)

theorem ownsMap_below {H : Type} {k : TypeId} {R : Value → Option (DataW H × List MemPlace)} {b n B : Nat} {D : DataW H} {w w' : World} (h : w.ownsMap Try.prog k R b n D) (hb : Below B w w') (hB : b < B) : w'.ownsMap Try.prog k R b n D := by
  obtain ⟨es, clock, h1, h2, h3, h4⟩ := h
  exact ⟨es, clock, (hb.block b hB).trans h1, h2, h3, h4⟩

/-- The number at a key. -/
def intAt {H : Type} : DataW H → Int
  | .lit (.int _ c) => c
  | _ => 0

theorem mapIs_owned {H : Type} {B b n : Nat} {D : DataW H} {w : World} (h : w.ownsMap Try.prog 9 (plainElem Try.prog 25) b n D) (hB : b < B) :
    ∃ M, MapIs B w (some b) (Maps.size D) M := by
  refine ⟨fun s => if s.size ≤ maxLen ∧ Maps.has D (.string s.data.toList) = true then some (intAt (D.atKey (.string s.data.toList) (.lit (.int .u64 0)))) else none, ?_, ?_, ?_⟩
  · intro w' hb ty
    exact (ownsMap_below h hb hB).len Try.underlying27 ty
  · intro w' hb s hs
    obtain ⟨v, ps, hrun, hv⟩ := (ownsMap_below h hb hB).look_ok law Try.underlying27 (zero25 w') (plainElem_int Try.underlying25 (by decide)) (Go.WideMaps.keyOf_string_mk Try.underlying9 hs)
    obtain ⟨c, rfl, hc, _⟩ := plainElem_int_inv Try.underlying25 hv
    have hat := congrArg Prod.fst hc
    simp only at hat
    rw [hrun]
    by_cases hh : Maps.has D (.string s.data.toList) = true
    · simp [hs, hh, hat, intAt]
    · have hf : Maps.has D (.string s.data.toList) = false := by simpa using hh
      have h0 := Maps.atKey_of_not_has hf (DataW.lit (.int .u64 0))
      rw [hat] at h0
      have : c = 0 := by simpa using h0
      simp [hf, this]
  · intro l hnd hall
    obtain ⟨es, rfl, _⟩ := h.tidy law
    have h1 : ∀ s ∈ l, Lit.string s.data.toList ∈ es.map (·.1) := by
      intro s hs
      have h2 := hall s hs
      by_cases hc : s.size ≤ maxLen ∧ Maps.has (.map es) (.string s.data.toList) = true
      · have h3 := hc.2
        rw [Maps.has_eq, List.any_eq_true] at h3
        obtain ⟨p, hp, hk⟩ := h3
        rw [← WideAt.sameKey_eq hk]
        exact List.mem_map.2 ⟨p, hp, rfl⟩
      · simp only [if_neg hc] at h2
        cases h2
    have hnd2 : (l.map fun s => Lit.string s.data.toList).Nodup := by
      refine nodup_map _ l hnd (fun a _ b _ e => ?_)
      have h3 : a.data.toList = b.data.toList := by simpa using e
      obtain ⟨⟨x⟩⟩ := a
      obtain ⟨⟨y⟩⟩ := b
      simpa using h3
    have := nodup_le _ (es.map (·.1)) hnd2 (fun x hx => by
      obtain ⟨s, hs, rfl⟩ := List.mem_map.1 hx
      exact h1 s hs)
    simpa [Maps.size] using this

end Go.Proofs.Qxb6603144a
