/-
  THE STATEMENT 'Rows.FnConflictsZeroOnOwnLogOneOnAFlipSaid', PROVED: the early returns, the opening of the arguments, the row's step.
-/
import Derived.Test.Qxb6602710aRows
import Derived.Test.Qxb6602710aLaw
import Derived.ProofKit
import Derived.OpenShut
import Derived.Deep.Slices
namespace Go.Proofs.Qxb6602710a
open Go.ChangeShapes Go.WideShapes Go.ChangeAt Go.RowKit
open Go.Extern.Stop (cell)

set_option maxRecDepth 100000 in
set_option maxHeartbeats 1000000 in
theorem law_early (a0 a1 a2 a3 : Option Addr) (l0 l1 l2 l3 c0 c1 c2 c3 : Nat) (kk : Int) (w : World) (h0 : l0 ≤ maxLen) (h1 : l1 ≤ maxLen) (h2 : l2 ≤ maxLen) (h3 : l3 ≤ maxLen)
    (h : 4096 < l0 ∨ 4096 < l1 ∨ 4096 < l2 ∨ 4096 < l3 ∨ l1 ≠ l2 ∨ l3 ≠ l2 ∨ kk < 0 ∨ (l2 : Int) ≤ kk) :
    Calls Try.prog 7 #[.slice a0 l0 c0, .slice a1 l1 c1, .slice a2 l2 c2, .slice a3 l3 c3, .int .i64 kk] w fun e w' => e = .returned (.bool true) ∧ Below w.heap.size w w' := by
  by_cases q0 : (4096 : Int) < (l0 : Int)
  · go_enter Try.func7, Try.ntmps7
    go_wp2_with fail
    refine (bytes_any a0 a1 a2 a3 l0 l1 l2 l3 c0 c1 c2 c3 kk _ h0 h1 h2 h3).mono ?_
    rintro e w' ⟨⟨r, rfl⟩, rfl⟩
    cases r <;> (go_wp2; go_ret; exact ⟨rfl, Below.refl _ _⟩)
  by_cases q1 : (4096 : Int) < (l1 : Int)
  · go_enter Try.func7, Try.ntmps7
    go_wp2_with fail
    refine (bytes_any a0 a1 a2 a3 l0 l1 l2 l3 c0 c1 c2 c3 kk _ h0 h1 h2 h3).mono ?_
    rintro e w' ⟨⟨r, rfl⟩, rfl⟩
    cases r <;> (go_wp2; go_ret; exact ⟨rfl, Below.refl _ _⟩)
  by_cases q2 : (4096 : Int) < (l2 : Int)
  · go_enter Try.func7, Try.ntmps7
    go_wp2_with fail
    refine (bytes_any a0 a1 a2 a3 l0 l1 l2 l3 c0 c1 c2 c3 kk _ h0 h1 h2 h3).mono ?_
    rintro e w' ⟨⟨r, rfl⟩, rfl⟩
    cases r <;> (go_wp2; go_ret; exact ⟨rfl, Below.refl _ _⟩)
  by_cases q3 : (4096 : Int) < (l3 : Int)
  · go_enter Try.func7, Try.ntmps7
    go_wp2_with fail
    refine (bytes_any a0 a1 a2 a3 l0 l1 l2 l3 c0 c1 c2 c3 kk _ h0 h1 h2 h3).mono ?_
    rintro e w' ⟨⟨r, rfl⟩, rfl⟩
    cases r <;> (go_wp2; go_ret; exact ⟨rfl, Below.refl _ _⟩)
  by_cases q4 : l1 = l2
  · subst q4
    by_cases q5 : l3 = l1
    · subst q5
      have q6 : kk < 0 ∨ (l3 : Int) ≤ kk := by omega
      clear h
      have qe : ((l3 : Int) != (l3 : Int)) = false := by simp
      rcases q6 with q6 | q6
      · go_enter Try.func7, Try.ntmps7
        go_wp2_with fail
        refine (bytes_any a0 a1 a2 a3 l0 l3 l3 l3 c0 c1 c2 c3 kk _ h0 h1 h2 h3).mono ?_
        rintro e w' ⟨⟨r, rfl⟩, rfl⟩
        cases r <;> (go_wp2; go_ret; exact ⟨rfl, Below.refl _ _⟩)
      · by_cases q7 : kk < 0
        · exact absurd q7 (by omega)
        · go_enter Try.func7, Try.ntmps7
          go_wp2_with fail
          refine (bytes_any a0 a1 a2 a3 l0 l3 l3 l3 c0 c1 c2 c3 kk _ h0 h1 h2 h3).mono ?_
          rintro e w' ⟨⟨r, rfl⟩, rfl⟩
          cases r <;> (go_wp2; go_ret; exact ⟨rfl, Below.refl _ _⟩)
    · have qe : ((l1 : Int) != (l1 : Int)) = false := by simp
      have qf : ((l3 : Int) != (l1 : Int)) = true := by rw [bne_iff_ne]; omega
      clear h q5
      go_enter Try.func7, Try.ntmps7
      go_wp2_with fail
      refine (bytes_any a0 a1 a2 a3 l0 l1 l1 l3 c0 c1 c2 c3 kk _ h0 h1 h2 h3).mono ?_
      rintro e w' ⟨⟨r, rfl⟩, rfl⟩
      cases r <;> (go_wp2; go_ret; exact ⟨rfl, Below.refl _ _⟩)
  · have qe : ((l1 : Int) != (l2 : Int)) = true := by rw [bne_iff_ne]; omega
    clear h q4
    go_enter Try.func7, Try.ntmps7
    go_wp2_with fail
    refine (bytes_any a0 a1 a2 a3 l0 l1 l2 l3 c0 c1 c2 c3 kk _ h0 h1 h2 h3).mono ?_
    rintro e w' ⟨⟨r, rfl⟩, rfl⟩
    cases r <;> (go_wp2; go_ret; exact ⟨rfl, Below.refl _ _⟩)

theorem law_any (a0 a1 a2 a3 : Option Addr) (l0 l1 l2 l3 c0 c1 c2 c3 : Nat) (kk : Int) (L Hs : Nat → List UInt8) (T : Nat → Int) (R : Nat → Bool) (w : World) (h0 : l0 ≤ maxLen) (h1 : l1 ≤ maxLen) (h2 : l2 ≤ maxLen) (h3 : l3 ≤ maxLen)
    (hA0 : LogAt w a0 l0 L) (hA1 : LogAt w a1 l1 Hs) (hA2 : IntsAt w a2 l2 T) (hA3 : BoolsAt w a3 l3 R) :
    Calls Try.prog 7 #[.slice a0 l0 c0, .slice a1 l1 c1, .slice a2 l2 c2, .slice a3 l3 c3, .int .i64 kk] w fun e w' => e = .returned (.bool true) ∧ Below w.heap.size w w' := by
  by_cases h : 4096 < l0 ∨ 4096 < l1 ∨ 4096 < l2 ∨ 4096 < l3 ∨ l1 ≠ l2 ∨ l3 ≠ l2 ∨ kk < 0 ∨ (l2 : Int) ≤ kk
  · exact law_early a0 a1 a2 a3 l0 l1 l2 l3 c0 c1 c2 c3 kk w h0 h1 h2 h3 h
  · obtain rfl : l1 = l2 := by omega
    obtain rfl : l3 = l1 := by omega
    obtain ⟨K, rfl⟩ : ∃ K : Nat, kk = (K : Int) := ⟨kk.toNat, by omega⟩
    exact law_main a0 a1 a2 a3 l0 l3 c0 c1 c2 c3 K L Hs T R w (by omega) (by omega) (by omega) hA0 hA1 hA2 hA3

section
variable {H : Type} {enc : TypeId × Value → H} {W : World} {base : Nat} {spare : Nat → Bool} {held : Bool}

/-- A value that is one byte. -/
def byteOf (v : Value) : UInt8 := match v with
  | .int _ n => UInt8.ofNat n.toNat
  | _ => 0

theorem bytes_of_cells {cs : List Value} (h : ∀ v ∈ cs, ∃ n : Int, v = .int .u8 n ∧ 0 ≤ n ∧ n ≤ 255) : hc (cs.map byteOf) = cs := by
  unfold hc
  rw [List.map_map]
  conv => rhs; rw [← List.map_id cs]
  refine List.map_congr_left fun v hv => ?_
  obtain ⟨n, rfl, h0, h1⟩ := h v hv
  simp only [Function.comp_def, byteOf, cell, id]
  congr 1
  have : n.toNat < 256 := by omega
  simp [UInt8.toNat_ofNat', Nat.mod_eq_of_lt this]
  omega

theorem open_log {fuel len cap : Nat} {a : Option Addr} {x : DataW H × List MemPlace} (h : DataW.trod enc Try.prog W base spare held fuel 22 [.slice a len cap] = some x) : len ≤ maxLen ∧ ∃ L, LogAt W a len L := by
  rcases Deep.open_slice Try.underlying22 h with ⟨hcs, _⟩ | ⟨ad, len', cap', m, n, D, Pl, hcs, _, hl, hm, hmm, _, hx⟩
  · simp at hcs
    obtain ⟨rfl, rfl, rfl⟩ := hcs
    exact ⟨Nat.zero_le _, fun _ => [], fun i hi => absurd hi (Nat.not_lt_zero _)⟩
  · simp at hcs
    obtain ⟨rfl, rfl, rfl⟩ := hcs
    refine ⟨Nat.le_trans hl hm, ?_⟩
    have hlm : len ≤ m := by rw [hmm]; split <;> omega
    rw [Try.cells29] at hx
    have key : ∀ i, i < len → ∃ hh : List UInt8, ∃ b off, some ad = some (⟨b, off, none⟩ : Addr) ∧ b < W.heap.size ∧ W.rangeAt b (off + i * 32) (hc hh) ∧ hh.length = 32 := by
      intro i hi
      obtain ⟨cs', h1, h2⟩ := hx i (by omega)
      obtain ⟨_, hlen, hcell⟩ := World.cells?_some h1
      obtain ⟨xs, q, _, _, _, hxl, hel⟩ := DataW.trod_array Try.underlying29 h2
      have hby : ∀ v ∈ cs', ∃ n : Int, v = .int .u8 n ∧ 0 ≤ n ∧ n ≤ 255 := by
        intro v hv
        obtain ⟨j, hj, rfl⟩ := List.getElem_of_mem hv
        have hj2 : j < 32 := by omega
        have h3 := hel j hj2
        have hc5 : Try.prog.cellsOf 5 = 1 := by kernel_rfl
        rw [hc5, Nat.mul_one, List.getElem?_eq_getElem (by omega : j < xs.length)] at h3
        obtain ⟨n, hn, _, hwf⟩ := DataW.trod_int Try.underlying5 h3
        have e1 : (cs'.drop j).take 1 = [cs'[j]] := by
          rw [List.drop_eq_getElem_cons hj]; rfl
        rw [e1] at hn
        have e2 := (List.cons.inj hn).1
        have hb : (IntKind.u8.min ≤ n ∧ n ≤ IntKind.u8.max) := by simpa [Lit.wf] using hwf
        exact ⟨n, e2, hb.1, hb.2⟩
      have hspot : ad.spot = none := by
        obtain ⟨ds, g1, _⟩ := hx 0 (by omega)
        obtain ⟨_, glen, gcell⟩ := World.cells?_some g1
        have g := gcell 0 (by omega)
        rw [List.getElem?_eq_getElem (by omega)] at g
        have := World.cell?_spot g
        simpa [Addr.add] using this
      have hc0 : W.cell? ((ad.add (i * 32)).add 0) = some (cs'[0]'(by omega)) := by rw [hcell 0 (by omega), List.getElem?_eq_getElem (by omega)]
      obtain ⟨b, off, spot⟩ := ad
      simp only at hspot
      subst hspot
      refine ⟨cs'.map byteOf, b, off, rfl, ?_, ?_, by simp [hlen]⟩
      · have := block_lt_of_cell hc0
        rw [add_plain, add_plain] at this
        exact this
      · rw [bytes_of_cells hby]
        intro j v hv
        have hj : j < cs'.length := (List.getElem?_eq_some_iff.1 hv).1
        have := hcell j (by omega)
        rw [add_plain, add_plain, hv] at this
        exact this
    obtain ⟨L, hL⟩ := Deep.choose_lt key
    exact ⟨L, hL⟩

theorem open_heights {fuel len cap : Nat} {a : Option Addr} {x : DataW H × List MemPlace} (h : DataW.trod enc Try.prog W base spare held fuel 23 [.slice a len cap] = some x) : len ≤ maxLen ∧ ∃ T, IntsAt W a len T := by
  rcases Deep.open_slice1 Try.underlying23 (by kernel_rfl) h with ⟨hcs, _⟩ | ⟨ad, len', cap', m, n, V, D, Pl, hcs, _, hl, hm, hmm, _, hx⟩
  · simp at hcs
    obtain ⟨rfl, rfl, rfl⟩ := hcs
    exact ⟨Nat.zero_le _, fun _ => 0, fun i hi => absurd hi (Nat.not_lt_zero _)⟩
  · simp at hcs
    obtain ⟨rfl, rfl, rfl⟩ := hcs
    refine ⟨Nat.le_trans hl hm, ?_⟩
    have hlm : len ≤ m := by rw [hmm]; split <;> omega
    have key : ∀ i, i < len → ∃ t : Int, ∃ b off, some ad = some (⟨b, off, none⟩ : Addr) ∧ b < W.heap.size ∧ W.cell? ⟨b, off + i, none⟩ = some (.int .i64 t) := by
      intro i hi
      obtain ⟨h1, h2⟩ := hx i (by omega)
      obtain ⟨t, ht, _, _⟩ := DataW.trod_int Try.underlying3 h2
      have e := (List.cons.inj ht).1
      rw [e] at h1
      have hspot : ad.spot = none := by
        have := World.cell?_spot (hx 0 (by omega)).1
        simpa [Addr.add] using this
      obtain ⟨b, off, spot⟩ := ad
      simp only at hspot
      subst hspot
      rw [add_plain] at h1
      exact ⟨t, b, off, rfl, block_lt_of_cell h1, h1⟩
    obtain ⟨T, hT⟩ := Deep.choose_lt key
    exact ⟨T, hT⟩

theorem open_reverted {fuel len cap : Nat} {a : Option Addr} {x : DataW H × List MemPlace} (h : DataW.trod enc Try.prog W base spare held fuel 24 [.slice a len cap] = some x) : len ≤ maxLen ∧ ∃ R, BoolsAt W a len R := by
  rcases Deep.open_slice1 Try.underlying24 (by kernel_rfl) h with ⟨hcs, _⟩ | ⟨ad, len', cap', m, n, V, D, Pl, hcs, _, hl, hm, hmm, _, hx⟩
  · simp at hcs
    obtain ⟨rfl, rfl, rfl⟩ := hcs
    exact ⟨Nat.zero_le _, fun _ => false, fun i hi => absurd hi (Nat.not_lt_zero _)⟩
  · simp at hcs
    obtain ⟨rfl, rfl, rfl⟩ := hcs
    refine ⟨Nat.le_trans hl hm, ?_⟩
    have hlm : len ≤ m := by rw [hmm]; split <;> omega
    have key : ∀ i, i < len → ∃ t : Bool, ∃ b off, some ad = some (⟨b, off, none⟩ : Addr) ∧ b < W.heap.size ∧ W.cell? ⟨b, off + i, none⟩ = some (.bool t) := by
      intro i hi
      obtain ⟨h1, h2⟩ := hx i (by omega)
      obtain ⟨t, ht, _⟩ := DataW.trod_bool Try.underlying4 h2
      have e := (List.cons.inj ht).1
      rw [e] at h1
      have hspot : ad.spot = none := by
        have := World.cell?_spot (hx 0 (by omega)).1
        simpa [Addr.add] using this
      obtain ⟨b, off, spot⟩ := ad
      simp only at hspot
      subst hspot
      rw [add_plain] at h1
      exact ⟨t, b, off, rfl, block_lt_of_cell h1, h1⟩
    obtain ⟨R, hR⟩ := Deep.choose_lt key
    exact ⟨R, hR⟩
end

theorem own : ownKnob Try.prog.godebug = none := by kernel_rfl
theorem laidOut : laidOutB Try.prog = true := by kernel_rfl

set_option maxRecDepth 100000 in
theorem lifted (os : Os) (started : os.Started) (H : Type) (enc : TypeId × Value → H) :
    ReturnsInHanded {} Try.checked os 7 .any (Rows.fnConflictsZeroOnOwnLogOneOnAFlipSpec.pre6 enc Try.prog Try.f7 Rows.fnConflictsZeroOnOwnLogOneOnAFlipRow.domain false) (Rows.fnConflictsZeroOnOwnLogOneOnAFlipSpec.post enc Try.prog Try.f7 false true false false) := by
  refine returnsInHanded_of_change (C := Try.checked) own started (by kernel_rfl) Try.func7
    (ChangeSpec.witness6 (enc := enc) (C := Try.checked) false ⟨#[], #[.slice none 0 0, .slice none 0 0, .slice none 0 0, .slice none 0 0, .int .i64 0], []⟩ 8 (by kernel_rfl) (by kernel_rfl) (by kernel_rfl) (by kernel_rfl)) ?_
  intro W base args ds gs before hval0 hW hcnd _
  have hval : ∀ (j : Nat) t v, Try.f7.params[j]? = some t → args[j]? = some v → Value.okWide Try.prog W .any base t v := hval0
  have hW' := hW
  obtain ⟨p, q, hA0, hV, rfl, hfz, hnd⟩ := hW
  have hA : DataW.TrodAll enc Try.prog W 0 (fun _ => true) true Try.f7.params.toList args.toList ds p := hA0
  rw [Try.params7] at hA hval
  obtain ⟨v0, vs0, d0, ds0, p0, q0, hargs, rfl, rfl, h0, r0⟩ := trodAll_cons hA
  obtain ⟨v1, vs1, d1, ds1, p1, q1, rfl, rfl, rfl, h1, r1⟩ := trodAll_cons r0
  obtain ⟨v2, vs2, d2, ds2, p2, q2, rfl, rfl, rfl, h2, r2⟩ := trodAll_cons r1
  obtain ⟨v3, vs3, d3, ds3, p3, q3, rfl, rfl, rfl, h3, r3⟩ := trodAll_cons r2
  obtain ⟨v4, vs4, d4, ds4, p4, q4, rfl, rfl, rfl, h4, r4⟩ := trodAll_cons r3
  obtain ⟨rfl, rfl, rfl⟩ := trodAll_nil r4
  obtain rfl : args = #[v0, v1, v2, v3, v4] := by cases args; simp_all
  obtain ⟨rfl, rfl⟩ := trodVars_none hV
  obtain ⟨a0, l0, c0, rfl⟩ := okWide_slice Try.underlying22 (hval 0 22 v0 rfl rfl)
  obtain ⟨a1, l1, c1, rfl⟩ := okWide_slice Try.underlying22 (hval 1 22 v1 rfl rfl)
  obtain ⟨a2, l2, c2, rfl⟩ := okWide_slice Try.underlying23 (hval 2 23 v2 rfl rfl)
  obtain ⟨a3, l3, c3, rfl⟩ := okWide_slice Try.underlying24 (hval 3 24 v3 rfl rfl)
  have k0 := h0
  have k1 := h1
  have k2 := h2
  have k3 := h3
  have lt0 : ∀ x ∈ p0, x.block < W.heap.size := by obtain ⟨m, hm⟩ := k0; exact DataW.trod_lt m _ _ _ hm
  have lt1 : ∀ x ∈ p1, x.block < W.heap.size := by obtain ⟨m, hm⟩ := k1; exact DataW.trod_lt m _ _ _ hm
  have lt2 : ∀ x ∈ p2, x.block < W.heap.size := by obtain ⟨m, hm⟩ := k2; exact DataW.trod_lt m _ _ _ hm
  have lt3 : ∀ x ∈ p3, x.block < W.heap.size := by obtain ⟨m, hm⟩ := k3; exact DataW.trod_lt m _ _ _ hm
  obtain ⟨m0, L, z0⟩ : l0 ≤ maxLen ∧ ∃ L, LogAt W a0 l0 L := by obtain ⟨fuel, hf⟩ := h0; exact open_log (by simpa [Value.cells] using hf)
  obtain ⟨m1, Hs, z1⟩ : l1 ≤ maxLen ∧ ∃ L, LogAt W a1 l1 L := by obtain ⟨fuel, hf⟩ := h1; exact open_log (by simpa [Value.cells] using hf)
  obtain ⟨m2, T, z2⟩ : l2 ≤ maxLen ∧ ∃ T, IntsAt W a2 l2 T := by obtain ⟨fuel, hf⟩ := h2; exact open_heights (by simpa [Value.cells] using hf)
  obtain ⟨m3, R, z3⟩ : l3 ≤ maxLen ∧ ∃ R, BoolsAt W a3 l3 R := by obtain ⟨fuel, hf⟩ := h3; exact open_reverted (by simpa [Value.cells] using hf)
  obtain ⟨kk, rfl, rfl, rfl, w4⟩ := open_int Try.underlying3 (hval 4 3 v4 rfl rfl) h4
  clear hA0 hval0
  refine (law_any a0 a1 a2 a3 l0 l1 l2 l3 c0 c1 c2 c3 kk L Hs T R W m0 m1 m2 m3 z0 z1 z2 z3).mono fun e W' ⟨he, bel⟩ => ?_
  subst he
  exact ⟨_, rfl, _, _, _, [], _, [], hW', trodAll_mk1 (shut_bool Try.underlying4 _), (trodAll_cons_mk (Below.trod laidOut (by kernel_rfl) (of_decide_eq_true (by kernel_rfl)) k0 bel lt0) (trodAll_cons_mk (Below.trod laidOut (by kernel_rfl) (of_decide_eq_true (by kernel_rfl)) k1 bel lt1) (trodAll_cons_mk (Below.trod laidOut (by kernel_rfl) (of_decide_eq_true (by kernel_rfl)) k2 bel lt2) (trodAll_cons_mk (Below.trod laidOut (by kernel_rfl) (of_decide_eq_true (by kernel_rfl)) k3 bel lt3) (trodAll_cons_mk (shut_int Try.underlying3 w4) trodAll_mk0))))), rfl, bel.frame _, fun h => by cases h⟩

theorem over : Rows.fnConflictsZeroOnOwnLogOneOnAFlipRow.holds Try.pinned (OpenSpec.ofChange Rows.fnConflictsZeroOnOwnLogOneOnAFlipSpec) :=
  OpenClaim.holds_of_wide 7 Try.f7 rfl rfl rfl rfl rfl rfl rfl ⟨rfl, rfl, rfl, rfl, rfl⟩ rfl rfl rfl rfl rfl (by kernel_rfl) Try.func7 (by kernel_rfl)
    (of_decide_eq_true (by kernel_rfl)) (by unfold Func.isWrapper; first | (rw [if_pos (by decide +kernel)]; kernel_rfl) | (rw [if_neg (by decide +kernel)]; exact ⟨rfl, rfl⟩))
    (fun os started H enc _ => lifted os started H enc)

/-- ████ THE STATEMENT ████ -/
theorem conflictsFlip_proved : Rows.FnConflictsZeroOnOwnLogOneOnAFlipSaid := over
#print axioms conflictsFlip_proved
end Go.Proofs.Qxb6602710a
