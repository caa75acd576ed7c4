/-
  THE STATEMENT 'Rows.FnFindScriptStaysTrueSaid', PROVED: the early returns, the opening of the arguments, the row's step.
-/
import Derived.Test.Qxb6603144aRows
import Derived.Test.Qxb6603144aLaw
import Derived.SizedLaws
import Derived.Deep.Slices
namespace Go.Proofs.Qxb6603144a
open Go.ChangeShapes Go.WideShapes Go.ChangeAt Go.RowKit

set_option maxRecDepth 100000 in
set_option maxHeartbeats 1000000 in
theorem law_early (mv : Option Nat) (ea fa qa : Option Addr) (en ec fl fc qn qc : Nat) (by_ : Int) (w : World) (h1 : en ≤ maxLen) (h2 : fl ≤ maxLen) (h3 : qn ≤ maxLen) (h : 4096 < en ∨ 65536 < fl ∨ 4096 < qn) :
    Calls Try.prog 7 #[.map mv, .slice ea en ec, .int .i64 by_, .slice fa fl fc, .slice qa qn qc] w fun e w' => e = .returned (.bool true) ∧ Below w.heap.size w w' := by
  unfold maxLen at *
  by_cases q1 : (4096 : Int) < (en : Int)
  · go_enter Try.func7, Try.ntmps7
    go_wp2
    go_ret
    exact ⟨rfl, Below.refl _ _⟩
  · by_cases q2 : (65536 : Int) < (fl : Int)
    · go_enter Try.func7, Try.ntmps7
      go_wp2
      go_ret
      exact ⟨rfl, Below.refl _ _⟩
    · have q3 : (4096 : Int) < (qn : Int) := by omega
      clear h
      go_enter Try.func7, Try.ntmps7
      go_wp2
      go_ret
      exact ⟨rfl, Below.refl _ _⟩

theorem law_any (mv : Option Nat) (N : Nat) (M : ByteArray → Option Int) (ea : Option Addr) (en ec : Nat) (E : Nat → ByteArray) (by_ : Int) (fa : Option Addr) (fl fc : Nat) (X0 : Nat → Int) (qa : Option Addr) (qn qc : Nat) (S : Nat → ByteArray) (w : World)
    (hM : MapIs w.heap.size w mv N M) (hA : StrsAt w.heap.size w ea en E) (hE : ∀ i, i < en → (E i).size ≤ 140737488351232) (hQ : StrsAt w.heap.size w qa qn S) (hS : ∀ i, i < qn → (S i).size ≤ 140737488351232)
    (h1 : en ≤ maxLen) (h2 : fl ≤ maxLen) (h3 : qn ≤ maxLen) (hF : CellsAt w.heap.size w fa fl X0) (hX : ∀ i, i < fl → 0 ≤ X0 i ∧ X0 i ≤ 4294967295) (hnil : fa = none → fl = 0 ∧ fc = 0) :
    Calls Try.prog 7 #[.map mv, .slice ea en ec, .int .i64 by_, .slice fa fl fc, .slice qa qn qc] w fun e w' => e = .returned (.bool true) ∧ Below w.heap.size w w' := by
  by_cases h : 4096 < en ∨ 65536 < fl ∨ 4096 < qn
  · exact law_early mv ea fa qa en ec fl fc qn qc by_ w h1 h2 h3 h
  · cases fa with
    | none =>
      obtain ⟨rfl, rfl⟩ := hnil rfl
      exact law_nil mv N M ea en ec E by_ qa qn qc S w hM hA hE hQ hS (by omega) (by omega)
    | some fd => exact law_some mv N M ea en ec E by_ fd fl fc X0 qa qn qc S w hM hA hE hQ hS (by omega) (by omega) (by omega) hF hX

section
variable {H : Type} {enc : TypeId × Value → H} {W : World} {base : Nat} {spare : Nat → Bool} {held : Bool}

theorem weightsAll_mem {P : Program} {e : TypeId} {d : DataW H} {n : Nat} : ∀ {l : List (DataW H)}, d ∈ l → n ∈ d.weights P e → n ∈ DataW.weightsAll P e l
  | x :: l, hd, hn => by
    simp only [DataW.weightsAll, List.mem_append]
    rcases List.mem_cons.1 hd with rfl | hd
    · exact .inl hn
    · exact .inr (weightsAll_mem hd hn)

theorem open_strs {fuel len cap : Nat} {a : Option Addr} {d : DataW H} {ps : List MemPlace} (h : DataW.trod enc Try.prog W base spare held fuel 28 [.slice a len cap] = some (d, ps)) :
    len ≤ maxLen ∧ ∃ E, StrsAt W.heap.size W a len E ∧ ∀ i, i < len → (E i).size ∈ d.weights Try.prog 28 := by
  rcases Deep.open_slice1 Try.underlying28 (by kernel_rfl) h with ⟨hcs, _⟩ | ⟨ad, len', cap', m, n, V, D, Pl, hcs, _, hl, hm, hmm, hx0, hx⟩
  · simp at hcs
    obtain ⟨rfl, rfl, rfl⟩ := hcs
    exact ⟨Nat.zero_le _, fun _ => ByteArray.empty, fun i hi => absurd hi (Nat.not_lt_zero _), fun i hi => absurd hi (Nat.not_lt_zero _)⟩
  · simp at hcs
    obtain ⟨rfl, rfl, rfl⟩ := hcs
    refine ⟨Nat.le_trans hl hm, ?_⟩
    have hlm : len ≤ m := by rw [hmm]; split <;> omega
    have key : ∀ i, i < len → ∃ s : ByteArray, (∃ b off, some ad = some (⟨b, off, none⟩ : Addr) ∧ b < W.heap.size ∧ W.cell? ⟨b, off + i, none⟩ = some (.string s)) ∧ D i = .lit (.string s.data.toList) := by
      intro i hi
      obtain ⟨h1, h2⟩ := hx i (by omega)
      obtain ⟨s, hs, hd, _⟩ := DataW.trod_string Try.underlying9 h2
      have e := (List.cons.inj hs).1
      rw [e] at h1
      have hspot : ad.spot = none := by
        have := World.cell?_spot (hx 0 (by omega)).1
        simpa [Addr.add] using this
      obtain ⟨b, off, spot⟩ := ad
      simp only at hspot
      subst hspot
      rw [add_plain] at h1
      exact ⟨s, ⟨b, off, rfl, block_lt_of_cell h1, h1⟩, congrArg Prod.fst hd⟩
    have : Inhabited ByteArray := ⟨ByteArray.empty⟩
    obtain ⟨E, hE⟩ := Deep.choose_lt key
    refine ⟨E, fun i hi => (hE i hi).1, fun i hi => ?_⟩
    have hd : d = .slice ((List.range len).map D) ((List.range (m - len)).map fun j => D (len + j)) := congrArg Prod.fst hx0
    rw [hd]
    simp only [DataW.weights, Try.underlying28, List.mem_cons, List.mem_append]
    refine .inr (.inl (weightsAll_mem (d := D i) (List.mem_map.2 ⟨i, by simpa using hi, rfl⟩) ?_))
    rw [(hE i hi).2]
    simp only [DataW.weights, List.mem_singleton]
    rfl

theorem open_found {fuel len cap : Nat} {a : Option Addr} {x : DataW H × List MemPlace} (h : DataW.trod enc Try.prog W base spare held fuel 29 [.slice a len cap] = some x) :
    len ≤ maxLen ∧ (a = none → len = 0 ∧ cap = 0) ∧ ∃ X, CellsAt W.heap.size W a len X ∧ ∀ i, i < len → 0 ≤ X i ∧ X i ≤ 4294967295 := by
  rcases Deep.open_slice1 Try.underlying29 (by kernel_rfl) h with ⟨hcs, _⟩ | ⟨ad, len', cap', m, n, V, D, Pl, hcs, _, hl, hm, hmm, _, hx⟩
  · simp at hcs
    obtain ⟨rfl, rfl, rfl⟩ := hcs
    exact ⟨Nat.zero_le _, fun _ => ⟨rfl, rfl⟩, fun _ => 0, fun i hi => absurd hi (Nat.not_lt_zero _), fun i hi => absurd hi (Nat.not_lt_zero _)⟩
  · simp at hcs
    obtain ⟨rfl, rfl, rfl⟩ := hcs
    refine ⟨Nat.le_trans hl hm, (fun h => by cases h), ?_⟩
    have hlm : len ≤ m := by rw [hmm]; split <;> omega
    have key : ∀ i, i < len → ∃ t : Int, (∃ b off, some ad = some (⟨b, off, none⟩ : Addr) ∧ b < W.heap.size ∧ W.cell? ⟨b, off + i, none⟩ = some (.int .u32 t)) ∧ 0 ≤ t ∧ t ≤ 4294967295 := by
      intro i hi
      obtain ⟨h1, h2⟩ := hx i (by omega)
      obtain ⟨t, ht, _, hw⟩ := DataW.trod_int Try.underlying38 h2
      have e := (List.cons.inj ht).1
      rw [e] at h1
      have hspot : ad.spot = none := by
        have := World.cell?_spot (hx 0 (by omega)).1
        simpa [Addr.add] using this
      obtain ⟨b, off, spot⟩ := ad
      simp only at hspot
      subst hspot
      rw [add_plain] at h1
      exact ⟨t, ⟨b, off, rfl, block_lt_of_cell h1, h1⟩, bounds_u32 hw⟩
    obtain ⟨X, hX⟩ := Deep.choose_lt key
    exact ⟨X, fun i hi => (hX i hi).1, fun i hi => (hX i hi).2⟩

theorem open_ids {fuel : Nat} {mv : Option Nat} {x : DataW H × List MemPlace} (h : DataW.trod enc Try.prog W base spare held fuel 27 [.map mv] = some x) : ∃ N M, MapIs W.heap.size W mv N M := by
  rcases Go.WideElems.open_map Try.underlying27 h with ⟨hcs, _⟩ | ⟨bm, es, clock, m, _, hcs, hb, _, F, _⟩
  · simp at hcs
    subst hcs
    exact ⟨0, _, mapIs_nil _ _⟩
  · simp at hcs
    subst hcs
    have hown := World.ownsMap_of_fit (R := plainElem Try.prog 25) hb F (fun x _ z hz => elemAt_plainElem_int Try.underlying25 hz)
    obtain ⟨M, hM⟩ := mapIs_owned (B := W.heap.size) hown hown.lt
    exact ⟨_, M, hM⟩
end

theorem own : ownKnob Try.prog.godebug = none := by kernel_rfl
theorem laidOut : laidOutB Try.prog = true := by kernel_rfl

set_option maxRecDepth 100000 in
theorem lifted (os : Os) (started : os.Started) (H : Type) (enc : TypeId × Value → H) :
    ReturnsInHanded {} Try.checked os 7 .any (Rows.fnFindScriptStaysTrueSpec.pre6 enc Try.prog Try.f7 Rows.fnFindScriptStaysTrueRow.domain false) (Rows.fnFindScriptStaysTrueSpec.post enc Try.prog Try.f7 false true false false) := by
  refine returnsInHanded_of_change_sized (C := Try.checked) own started (by kernel_rfl) Try.func7
    (ChangeSpec.witness6 (enc := enc) (C := Try.checked) false ⟨#[], #[.map none, .slice none 0 0, .int .i64 0, .slice none 0 0, .slice none 0 0], []⟩ 8 (by kernel_rfl) (by kernel_rfl) (by kernel_rfl) (by kernel_rfl)) ?_
  intro W base args ds gs before hval0 hW hcnd hsz0 _
  have hval : ∀ (j : Nat) t v, Try.f7.params[j]? = some t → args[j]? = some v → Value.okWide Try.prog W .any base t v := hval0
  have hsz : (DataW.weightsEach Try.prog (Try.f7.params.toList ++ Rows.fnFindScriptStaysTrueSpec.plain.varTypes Try.prog) (ds ++ gs)).all (· ≤ reachBytes) = true := hsz0
  have hW' := hW
  obtain ⟨p, q, hA0, hV, rfl, hfz, hnd⟩ := hW
  have hA : DataW.TrodAll enc Try.prog W 0 (fun _ => true) true Try.f7.params.toList args.toList ds p := hA0
  rw [Try.params7] at hA hval hsz
  obtain ⟨v0, vs0, d0, ds0, p0, q0, hargs, rfl, rfl, h0, r0⟩ := trodAll_cons hA
  obtain ⟨v1, vs1, d1, ds1, p1, q1, rfl, rfl, rfl, h1, r1⟩ := trodAll_cons r0
  obtain ⟨v2, vs2, d2, ds2, p2, q2, rfl, rfl, rfl, h2, r2⟩ := trodAll_cons r1
  obtain ⟨v3, vs3, d3, ds3, p3, q3, rfl, rfl, rfl, h3, r3⟩ := trodAll_cons r2
  obtain ⟨v4, vs4, d4, ds4, p4, q4, rfl, rfl, rfl, h4, r4⟩ := trodAll_cons r3
  obtain ⟨rfl, rfl, rfl⟩ := trodAll_nil r4
  obtain rfl : args = #[v0, v1, v2, v3, v4] := by cases args; simp_all
  obtain ⟨rfl, rfl⟩ := trodVars_none hV
  obtain ⟨mv, rfl⟩ := okWide_map Try.underlying27 (hval 0 27 v0 rfl rfl)
  obtain ⟨a1, l1, c1, rfl⟩ := okWide_slice Try.underlying28 (hval 1 28 v1 rfl rfl)
  obtain ⟨a3, l3, c3, rfl⟩ := okWide_slice Try.underlying29 (hval 3 29 v3 rfl rfl)
  obtain ⟨a4, l4, c4, rfl⟩ := okWide_slice Try.underlying28 (hval 4 28 v4 rfl rfl)
  have k0 := h0
  have k1 := h1
  have k3 := h3
  have k4 := h4
  have lt0 : ∀ x ∈ p0, x.block < W.heap.size := by obtain ⟨m, hm⟩ := k0; exact DataW.trod_lt m _ _ _ hm
  have lt1 : ∀ x ∈ p1, x.block < W.heap.size := by obtain ⟨m, hm⟩ := k1; exact DataW.trod_lt m _ _ _ hm
  have lt3 : ∀ x ∈ p3, x.block < W.heap.size := by obtain ⟨m, hm⟩ := k3; exact DataW.trod_lt m _ _ _ hm
  have lt4 : ∀ x ∈ p4, x.block < W.heap.size := by obtain ⟨m, hm⟩ := k4; exact DataW.trod_lt m _ _ _ hm
  obtain ⟨N, M, hM⟩ : ∃ N M, MapIs W.heap.size W mv N M := by obtain ⟨fuel, hf⟩ := h0; exact open_ids (by simpa [Value.cells] using hf)
  obtain ⟨m1, E, z1, y1⟩ : l1 ≤ maxLen ∧ ∃ E, StrsAt W.heap.size W a1 l1 E ∧ ∀ i, i < l1 → (E i).size ∈ d1.weights Try.prog 28 := by obtain ⟨fuel, hf⟩ := h1; exact open_strs (by simpa [Value.cells] using hf)
  obtain ⟨m3, hnil, X, z3, y3⟩ : l3 ≤ maxLen ∧ (a3 = none → l3 = 0 ∧ c3 = 0) ∧ ∃ X, CellsAt W.heap.size W a3 l3 X ∧ ∀ i, i < l3 → 0 ≤ X i ∧ X i ≤ 4294967295 := by obtain ⟨fuel, hf⟩ := h3; exact open_found (by simpa [Value.cells] using hf)
  obtain ⟨m4, S, z4, y4⟩ : l4 ≤ maxLen ∧ ∃ E, StrsAt W.heap.size W a4 l4 E ∧ ∀ i, i < l4 → (E i).size ∈ d4.weights Try.prog 28 := by obtain ⟨fuel, hf⟩ := h4; exact open_strs (by simpa [Value.cells] using hf)
  obtain ⟨by_, rfl, rfl, rfl, w2⟩ := open_int Try.underlying3 (hval 2 3 v2 rfl rfl) h2
  have hE : ∀ i, i < l1 → (E i).size ≤ 140737488351232 := fun i hi => by
    have := List.all_eq_true.1 hsz _ (DataW.weights_mem_each (j := 1) (t := 28) (d := d1) rfl rfl _ (y1 i hi))
    have h5 := of_decide_eq_true this
    simpa [reachBytes] using h5
  have hS : ∀ i, i < l4 → (S i).size ≤ 140737488351232 := fun i hi => by
    have := List.all_eq_true.1 hsz _ (DataW.weights_mem_each (j := 4) (t := 28) (d := d4) rfl rfl _ (y4 i hi))
    have h5 := of_decide_eq_true this
    simpa [reachBytes] using h5
  clear hA0 hval0 hsz hsz0
  refine (law_any mv N M a1 l1 c1 E by_ a3 l3 c3 X a4 l4 c4 S W hM z1 hE z4 hS m1 m3 m4 z3 y3 hnil).mono fun e W' ⟨he, bel⟩ => ?_
  subst he
  exact ⟨_, rfl, _, _, _, [], _, [], hW', trodAll_mk1 (shut_bool Try.underlying4 _), (trodAll_cons_mk (Below.trod laidOut (by kernel_rfl) (of_decide_eq_true (by kernel_rfl)) k0 bel lt0) (trodAll_cons_mk (Below.trod laidOut (by kernel_rfl) (of_decide_eq_true (by kernel_rfl)) k1 bel lt1) (trodAll_cons_mk (shut_int Try.underlying3 w2) (trodAll_cons_mk (Below.trod laidOut (by kernel_rfl) (of_decide_eq_true (by kernel_rfl)) k3 bel lt3) (trodAll_cons_mk (Below.trod laidOut (by kernel_rfl) (of_decide_eq_true (by kernel_rfl)) k4 bel lt4) trodAll_mk0))))), rfl, bel.frame _, fun h => by cases h⟩

theorem over : Rows.fnFindScriptStaysTrueRow.holds Try.pinned (OpenSpec.ofChange Rows.fnFindScriptStaysTrueSpec) :=
  OpenClaim.holds_of_wide 7 Try.f7 rfl rfl rfl rfl rfl rfl rfl ⟨rfl, rfl, rfl, rfl, rfl⟩ rfl rfl rfl rfl rfl (by kernel_rfl) Try.func7 (by kernel_rfl)
    (of_decide_eq_true (by kernel_rfl)) (by unfold Func.isWrapper; first | (rw [if_pos (by decide +kernel)]; kernel_rfl) | (rw [if_neg (by decide +kernel)]; exact ⟨rfl, rfl⟩))
    (fun os started H enc _ => lifted os started H enc)

/-- ████ THE STATEMENT ████ -/
theorem findScript_proved : Rows.FnFindScriptStaysTrueSaid := over
#print axioms findScript_proved
end Go.Proofs.Qxb6603144a
