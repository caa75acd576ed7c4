/-
  THE WALK OF '(*table).find' AND OF 'ZZFind'.
-/
import Derived.Test.Qxb6603144aMem
import Derived.Deep.RegionHeld3
import Derived.Deep.DrawnRows
namespace Go.Proofs.Qxb6603144a
open Go.RowKit

/-- The cache: fl numbers, each as it was at first or one more than an entry's place. -/
structure Row (B : Nat) (w : World) (T fl en : Nat) (X0 : Nat → Int) (F : Nat) : Prop where
  hB : B ≤ F
  hT : F ≠ T
  hs : F < w.heap.size
  cells : ∀ k, k < fl → ∃ x : Int, w.cell? ⟨F, k, none⟩ = some (.int .u32 x) ∧ w.frozen? ⟨F, k, none⟩ = false ∧ 0 ≤ x ∧ x ≤ 4294967295 ∧ (x = X0 k ∨ (1 ≤ x ∧ x ≤ en))

theorem Row.drewN {B : Nat} {w : World} {T fl en : Nat} {X0 : Nat → Int} {F : Nat} (h : Row B w T fl en X0 F) (k : Nat) : Row B (w.drewN k) T fl en X0 F := ⟨h.hB, h.hT, h.hs, h.cells⟩
theorem Row.set {B : Nat} {w : World} {T fl en : Nat} {X0 : Nat → Int} {F : Nat} (h : Row B w T fl en X0 F) (J : Nat) (v : Int) (h1 : 1 ≤ v) (h2 : v ≤ en) (h3 : en ≤ 4096) : Row B (w.setCell ⟨F, J, none⟩ (.int .u32 v)) T fl en X0 F :=
  ⟨h.hB, h.hT, by simpa [World.setCell] using h.hs, fun k hk => by
    obtain ⟨x, c, f, b0, b1, o⟩ := h.cells k hk
    by_cases e : k = J
    · subst e
      exact ⟨v, World.cell?_setCell_same _ _ _ c, by rw [World.frozen?_setCell]; exact f, by omega, by omega, .inr ⟨h1, h2⟩⟩
    · exact ⟨x, by rw [World.cell?_setCell_other _ _ _ _ (by intro h; simp at h <;> omega)]; exact c, by rw [World.frozen?_setCell]; exact f, b0, b1, o⟩⟩
theorem TabAt.drewN {w : World} {T : Nat} {mv : Option Nat} {ea : Option Addr} {en ec : Nat} {by_ : Int} {fv : Value} (h : TabAt w T mv ea en ec by_ fv) (k : Nat) : TabAt (w.drewN k) T mv ea en ec by_ fv := ⟨h.c0, h.c1, h.c2, h.c3, h.f3⟩
theorem TabAt.set {w : World} {T : Nat} {mv : Option Nat} {ea : Option Addr} {en ec : Nat} {by_ : Int} {fv : Value} (h : TabAt w T mv ea en ec by_ fv) (F J : Nat) (hne : F ≠ T) (v : Value) : TabAt (w.setCell ⟨F, J, none⟩ v) T mv ea en ec by_ fv :=
  ⟨by rw [World.cell?_setCell_other _ _ _ _ (by intro h; simp at h <;> omega)]; exact h.c0, by rw [World.cell?_setCell_other _ _ _ _ (by intro h; simp at h <;> omega)]; exact h.c1, by rw [World.cell?_setCell_other _ _ _ _ (by intro h; simp at h <;> omega)]; exact h.c2,
   by rw [World.cell?_setCell_other _ _ _ _ (by intro h; simp at h <;> omega)]; exact h.c3, by rw [World.frozen?_setCell]; exact h.f3⟩

theorem wrap_dec (x : Int) (h0 : 0 ≤ x) (h1 : x ≤ 4294967295) : IntKind.u64.wrap (x - 1) = if x = 0 then 18446744073709551615 else x - 1 := by
  simp only [IntKind.wrap, IntKind.signed, IntKind.bits, Bool.false_and, Bool.false_eq_true, if_false]
  split <;> omega

theorem idx_bounds (h : Int) : 0 ≤ IntKind.u64.wrap (h * 11400714819323198485) / 18014398509481984 ∧ IntKind.u64.wrap (h * 11400714819323198485) / 18014398509481984 < 1024 := by
  have := bounds_u64 (wf_wrap .u64 (h * 11400714819323198485))
  omega

set_option maxRecDepth 100000 in
set_option maxHeartbeats 1000000 in
theorem find_row (B : Nat) (w0 w : World) (T : Nat) (mv : Option Nat) (N : Nat) (M : ByteArray → Option Int) (ea : Option Addr) (en ec : Nat) (E : Nat → ByteArray) (by_ : Int) (F fl : Nat) (X0 : Nat → Int) (s : ByteArray)
    (hM : MapIs B w0 mv N M) (hb : Below B w0 w) (hT : TabAt w T mv ea en ec by_ (.slice (some ⟨F, 0, none⟩) fl fl)) (hR : Row B w T fl en X0 F) (hA : StrsAt B w0 ea en E) (hs : s.size ≤ 1048576)
    (hen : en ≤ 4096) (hfl : 1024 ≤ fl) (hfl2 : fl ≤ 65536) (hN : N = en) (hNum : Numbered en E M) :
    Calls Try.prog 22 #[.pointer (some ⟨T, 0, none⟩), .string s] w fun e w' => e = .returned (.tuple #[.int .u64 ((M s).getD 0), .bool (M s).isSome]) ∧ Below B w w' ∧ TabAt w' T mv ea en ec by_ (.slice (some ⟨F, 0, none⟩) fl fl) ∧ Row B w' T fl en X0 F := by
  have he := fun w => Lib.run_eql_slice_nil (P := Try.prog) w 29 38 (some ⟨F, 0, none⟩) fl fl 0 0 Try.underlying29
  obtain ⟨c0, c1, c2, c3, f3⟩ := hT
  have HR : Hid (Row B w T fl en X0 F) := hR
  have HT : Hid (TabAt w T mv ea en ec by_ (.slice (some ⟨F, 0, none⟩) fl fl)) := ⟨c0, c1, c2, c3, f3⟩
  have HN : Hid (N = en) := hN
  clear hR hN
  have hflI : (1024 : Int) ≤ (fl : Int) := by omega
  have hflI2 : (fl : Int) ≤ 65536 := by omega
  go_enter Try.func22, Try.ntmps22
  go_wp2
  go_region_held3 (fun W => W.cell? ⟨T, 3, none⟩ = some (.slice (some ⟨F, 0, none⟩) fl fl)) (go_keep) ((go_at_call 21; refine (hash_any s _ hs).mono ?_; rintro e wh ⟨⟨h, rfl, hwf⟩, kh, rfl⟩; have hi0 := (idx_bounds h).1; have hi1 : IntKind.u64.wrap (h * 11400714819323198485) / 18014398509481984 < (fl : Int) := Int.lt_of_lt_of_le (idx_bounds h).2 hflI))
  generalize IntKind.u64.wrap (h * 11400714819323198485) / 18014398509481984 = idx at *
  obtain ⟨J, rfl⟩ := Int.eq_ofNat_of_zero_le hi0
  have hJ : J < fl := by omega
  obtain ⟨x, hx, hfx, hx0, hx1, hxo⟩ := HR.out.cells J hJ
  clear hi0 hi1 hwf
  by_cases hA1 : 1 ≤ x ∧ x ≤ en ∧ E (x - 1).toNat = s
  · obtain ⟨hx2, hx3, hx4⟩ := hA1
    obtain ⟨i, hi⟩ : ∃ i : Nat, x = (i : Int) + 1 := ⟨(x - 1).toNat, by omega⟩
    subst hi
    have hie : i < en := by omega
    obtain ⟨b, off, rfl, hbB, hc⟩ := hA i hie
    have hc' := (hb.cell (p := ⟨b, off + i, none⟩) hbB).trans hc
    have hEi : E i = s := by rw [← hx4]; congr 1; omega
    have hq : ((E i).toList == s.toList) = true := by rw [hEi]; simp
    have HMs : Hid (M s = some (i : Int)) := by rw [← hEi]; exact hNum i hie
    clear hEi hx4 hA hc hNum hM
    go_wp2
    go_ret2
    exact ⟨by rw [HMs.out]; rfl, below_drewN _ _ _, HT.out.drewN _, HR.out.drewN _⟩
  · have hsm : s.size ≤ maxLen := Nat.le_trans hs (by unfold maxLen; omega)
    have HA1 : Hid (¬ (1 ≤ x ∧ x ≤ en ∧ E (x - 1).toNat = s)) := hA1
    clear hA1
    rcases (show ¬ (1 ≤ x ∧ x ≤ en) ∨ (1 ≤ x ∧ x ≤ en) by omega) with hxn | ⟨hx2, hx3⟩
    · have hyd : decide (IntKind.u64.wrap (x - 1) < (en : Int)) = false := by
        rw [decide_eq_false_iff_not, wrap_dec x hx0 hx1]
        split <;> omega
      clear hxn hxo HA1
      clear hA
      cases hm : M s with
      | none =>
      have h1 : Hid ((M s).getD 0 = 0) := by rw [hm]; rfl
      have h2 : Hid ((M s).isSome = false) := by rw [hm]; rfl
      clear hm
      go_wp2_with (at_lookup; refine wpList_look_map hM (hb.trans (below_drewN _ _ _)) rfl _ _ rfl rfl s rfl hsm 0 false h1.out h2.out ?_)
      go_ret2
      exact ⟨by rw [h1.out, h2.out]; rfl, below_drewN _ _ _, HT.out.drewN _, HR.out.drewN _⟩
      | some v =>
      have h1 : Hid ((M s).getD 0 = v) := by rw [hm]; rfl
      have h2 : Hid ((M s).isSome = true) := by rw [hm]; rfl
      obtain ⟨i', hi', _, hv⟩ := only_entries hM HN.out hNum hm
      have hv0 : 0 ≤ v := by omega
      have hv1 : v < 4096 := by omega
      have hv2 : v + 1 ≤ (en : Int) := by omega
      clear hm hi' hv
      go_wp2_with (at_lookup; refine wpList_look_map hM (hb.trans (below_drewN _ _ _)) rfl _ _ rfl rfl s rfl hsm v true h1.out h2.out ?_)
      go_ret2
      exact ⟨by rw [h1.out, h2.out]; rfl, (below_drewN _ _ _).setCell (p := ⟨F, J, none⟩) HR.out.hB _, (HT.out.drewN _).set F J HR.out.hT _, (HR.out.drewN _).set J _ (by omega) hv2 hen⟩
    · obtain ⟨i, hi⟩ : ∃ i : Nat, x = (i : Int) + 1 := ⟨(x - 1).toNat, by omega⟩
      subst hi
      have hie : i < en := by omega
      have hieI : (i : Int) < (en : Int) := by omega
      obtain ⟨b, off, rfl, hbB, hc⟩ := hA i hie
      have hc' := (hb.cell (p := ⟨b, off + i, none⟩) hbB).trans hc
      have hne : ¬ E i = s := fun e => HA1.out ⟨hx2, hx3, by rw [show ((i : Int) + 1 - 1).toNat = i from by omega]; exact e⟩
      have hq : ((E i).toList == s.toList) = false := by
        rw [beq_eq_false_iff_ne]
        intro e
        rw [ByteArray.toList_eq, ByteArray.toList_eq] at e
        exact hne (bytes_ext (by simpa using congrArg List.length e) (fun j h1 h2 => by
          have h3 := congrArg (fun l => l[j]?) e
          simp only [Array.getElem?_toList] at h3
          have h4 : (E i).data[j]? = some ((E i)[j]) := Array.getElem?_eq_getElem h1
          have h5 : s.data[j]? = some (s[j]) := Array.getElem?_eq_getElem h2
          rw [h4, h5] at h3
          exact Option.some.inj h3))
      clear hA hc hne
      cases hm : M s with
      | none =>
      have h1 : Hid ((M s).getD 0 = 0) := by rw [hm]; rfl
      have h2 : Hid ((M s).isSome = false) := by rw [hm]; rfl
      clear hm
      go_wp2_with (at_lookup; refine wpList_look_map hM (hb.trans (below_drewN _ _ _)) rfl _ _ rfl rfl s rfl hsm 0 false h1.out h2.out ?_)
      go_ret2
      exact ⟨by rw [h1.out, h2.out]; rfl, below_drewN _ _ _, HT.out.drewN _, HR.out.drewN _⟩
      | some v =>
      have h1 : Hid ((M s).getD 0 = v) := by rw [hm]; rfl
      have h2 : Hid ((M s).isSome = true) := by rw [hm]; rfl
      obtain ⟨i', hi', _, hv⟩ := only_entries hM HN.out hNum hm
      have hv0 : 0 ≤ v := by omega
      have hv1 : v < 4096 := by omega
      have hv2 : v + 1 ≤ (en : Int) := by omega
      clear hm hi' hv
      go_wp2_with (at_lookup; refine wpList_look_map hM (hb.trans (below_drewN _ _ _)) rfl _ _ rfl rfl s rfl hsm v true h1.out h2.out ?_)
      go_ret2
      exact ⟨by rw [h1.out, h2.out]; rfl, (below_drewN _ _ _).setCell (p := ⟨F, J, none⟩) HR.out.hB _, (HT.out.drewN _).set F J HR.out.hT _, (HR.out.drewN _).set J _ (by omega) hv2 hen⟩

/-- 'make' of numbers: the new block is there, all noughts. -/
theorem wpList_make_nought {ops : Array Oper} {rest : List Oper} {op : Oper} {a : Act} {w : World} {Q : Exit → Act → World → Prop} (hgd : op.guard = none) (x : Operand) (ho : op.op = .makeSlice 29 x x)
    (n : Nat) (hx : a.eval x = .int .i64 n) (hb : n ≤ 65536)
    (h : ∀ w', NewBlock w w' n → (∀ k, k < n → w'.cell? ⟨w.heap.size, k, none⟩ = some (.int .u32 0)) → wpList Try.prog ops Q rest (a.put op.dst (.slice (some ⟨w.heap.size, 0, none⟩) n n)) w') : wpList Try.prog ops Q (op :: rest) a w :=
  wpList_plain hgd fun K hK => by
    cases hq : Try.prog.info? 38 with
    | none => have := zero38; simp [hq] at this
    | some i =>
      have hi : i.zero = some (.int .u32 0) := by have := zero38; simpa [hq] using this
      have hs' : i.size = 1 ∧ i.bytes = 4 := by have := info38; simpa [hq] using this
      have hrun := run_make (P := Try.prog) w 29 38 i (.int .u32 0) Try.underlying29 hq hi .i64 .i64 n n (by omega) (Int.le_refl _) (by rw [hs'.2]; omega) (by omega)
      simp only [Int.toNat_natCast, hs'.1, Nat.mul_one] at hrun
      unfold Oper.wp execOp
      simp only [ho, hx]
      rw [Sem.run_bind, hrun]
      have hnb := newBlock_alloc w (madeCells (Value.int .u32 0).cells n) 38
      rw [size_madeCells] at hnb
      refine hK _ _ (h _ hnb (fun k hk => ?_))
      rw [World.cell?_alloc_at _ 38 w.heap.size k rfl]
      simp [madeCells, hk, Value.cells, Nat.mod_one]

set_option maxRecDepth 100000 in
set_option maxHeartbeats 2000000 in
theorem find_nil (B : Nat) (w0 w : World) (T : Nat) (mv : Option Nat) (N : Nat) (M : ByteArray → Option Int) (ea : Option Addr) (en ec : Nat) (E : Nat → ByteArray) (by_ : Int) (X0 : Nat → Int) (s : ByteArray)
    (hM : MapIs B w0 mv N M) (hb0 : Below B w0 w) (hBT : B ≤ T) (hT : TabAt w T mv ea en ec by_ (.slice none 0 0)) (hX0 : ∀ k, X0 k = 0) (hA : StrsAt B w0 ea en E) (hs : s.size ≤ 1048576)
    (hen : en ≤ 4096) (hN : N = en) (hNum : Numbered en E M) :
    Calls Try.prog 22 #[.pointer (some ⟨T, 0, none⟩), .string s] w fun e w' => e = .returned (.tuple #[.int .u64 ((M s).getD 0), .bool (M s).isSome]) ∧ Below B w w' ∧ ∃ F, TabAt w' T mv ea en ec by_ (.slice (some ⟨F, 0, none⟩) 1024 1024) ∧ Row B w' T 1024 en X0 F := by
  have he := fun w => Lib.run_eql_slice_nil (P := Try.prog) w 29 38 none 0 0 0 0 Try.underlying29
  obtain ⟨c0', c1', c2', c3', f3'⟩ := hT
  have hTs : T < w.heap.size := block_lt_of_cell c3'
  have HN : Hid (N = en) := hN
  clear hN
  go_enter Try.func22, Try.ntmps22
  go_wp2_with (at_make; refine wpList_make_nought rfl _ rfl 1024 rfl (by omega) ?_; intro w1 hw1 hz1; have c3a := (hw1.below.cell (p := ⟨T, 3, none⟩) hTs).trans c3'; have f3a := (hw1.below.frozen (p := ⟨T, 3, none⟩) hTs).trans f3')
  have c0a := (hw1.below.cell (p := ⟨T, 0, none⟩) hTs).trans c0'
  have c1a := (hw1.below.cell (p := ⟨T, 1, none⟩) hTs).trans c1'
  have c2a := (hw1.below.cell (p := ⟨T, 2, none⟩) hTs).trans c2'
  have HT : Hid (TabAt (w1.setCell ⟨T, 3, none⟩ (.slice (some ⟨w.heap.size, 0, none⟩) 1024 1024)) T mv ea en ec by_ (.slice (some ⟨w.heap.size, 0, none⟩) 1024 1024)) :=
    ⟨by rw [World.cell?_setCell_other _ _ _ _ (by intro h; simp at h)]; exact c0a, by rw [World.cell?_setCell_other _ _ _ _ (by intro h; simp at h)]; exact c1a, by rw [World.cell?_setCell_other _ _ _ _ (by intro h; simp at h)]; exact c2a,
     World.cell?_setCell_same _ _ _ c3a, by rw [World.frozen?_setCell]; exact f3a⟩
  have HR : Hid (Row B (w1.setCell ⟨T, 3, none⟩ (.slice (some ⟨w.heap.size, 0, none⟩) 1024 1024)) T 1024 en X0 w.heap.size) :=
    ⟨by omega, by omega, by have h1 := hw1.size; have h2 := ((Below.refl 0 w1).setCell (p := ⟨T, 3, none⟩) (Nat.zero_le _) (.slice (some ⟨w.heap.size, 0, none⟩) 1024 1024)).size; omega, fun k hk => ⟨0, by rw [World.cell?_setCell_other _ _ _ _ (by intro h; simp at h <;> omega)]; exact hz1 k hk, by
      rw [World.frozen?_setCell]
      have := (hw1.there k hk).2
      simpa using this, by omega, by omega, .inl (hX0 k).symm⟩⟩
  have hbW : Below B w (w1.setCell ⟨T, 3, none⟩ (.slice (some ⟨w.heap.size, 0, none⟩) 1024 1024)) := (hw1.below.mono (by omega)).setCell (p := ⟨T, 3, none⟩) hBT _
  have hb := hb0.trans hbW
  generalize w1.setCell ⟨T, 3, none⟩ (.slice (some ⟨w.heap.size, 0, none⟩) 1024 1024) = W at *
  clear c0' c1' c2' c3' f3' c0a c1a c2a c3a f3a hw1 hz1 he
  obtain ⟨c0, c1, c2, c3, f3⟩ := HT.out
  generalize w.heap.size = F at *
  go_region_held3 (fun V => V.cell? ⟨T, 3, none⟩ = some (.slice (some ⟨F, 0, none⟩) 1024 1024)) (go_keep) ((go_at_call 21; refine (hash_any s _ hs).mono ?_; rintro e wh ⟨⟨h, rfl, hwf⟩, kh, rfl⟩; have hi0 := (idx_bounds h).1; have hi1 := (idx_bounds h).2))
  generalize IntKind.u64.wrap (h * 11400714819323198485) / 18014398509481984 = idx at *
  obtain ⟨J, rfl⟩ := Int.eq_ofNat_of_zero_le hi0
  have hJ : J < 1024 := by omega
  obtain ⟨x, hx, hfx, hx0, hx1, hxo⟩ := HR.out.cells J hJ
  clear hi0 hi1 hwf
  by_cases hA1 : 1 ≤ x ∧ x ≤ en ∧ E (x - 1).toNat = s
  · obtain ⟨hx2, hx3, hx4⟩ := hA1
    obtain ⟨i, hi⟩ : ∃ i : Nat, x = (i : Int) + 1 := ⟨(x - 1).toNat, by omega⟩
    subst hi
    have hie : i < en := by omega
    obtain ⟨b, off, rfl, hbB, hc⟩ := hA i hie
    have hc' := (hb.cell (p := ⟨b, off + i, none⟩) hbB).trans hc
    have hEi : E i = s := by rw [← hx4]; congr 1; omega
    have hq : ((E i).toList == s.toList) = true := by rw [hEi]; simp
    have HMs : Hid (M s = some (i : Int)) := by rw [← hEi]; exact hNum i hie
    clear hEi hx4 hA hc hNum hM
    go_wp2
    go_ret2
    exact ⟨by rw [HMs.out]; rfl, hbW.trans (below_drewN _ _ _), F, HT.out.drewN _, HR.out.drewN _⟩
  · have hsm : s.size ≤ maxLen := Nat.le_trans hs (by unfold maxLen; omega)
    have HA1 : Hid (¬ (1 ≤ x ∧ x ≤ en ∧ E (x - 1).toNat = s)) := hA1
    clear hA1
    rcases (show ¬ (1 ≤ x ∧ x ≤ en) ∨ (1 ≤ x ∧ x ≤ en) by omega) with hxn | ⟨hx2, hx3⟩
    · have hyd : decide (IntKind.u64.wrap (x - 1) < (en : Int)) = false := by
        rw [decide_eq_false_iff_not, wrap_dec x hx0 hx1]
        split <;> omega
      clear hxn hxo HA1
      clear hA
      cases hm : M s with
      | none =>
      have h1 : Hid ((M s).getD 0 = 0) := by rw [hm]; rfl
      have h2 : Hid ((M s).isSome = false) := by rw [hm]; rfl
      clear hm
      go_wp2_with (at_lookup; refine wpList_look_map hM (hb.trans (below_drewN _ _ _)) rfl _ _ rfl rfl s rfl hsm 0 false h1.out h2.out ?_)
      go_ret2
      exact ⟨by rw [h1.out, h2.out]; rfl, hbW.trans (below_drewN _ _ _), F, HT.out.drewN _, HR.out.drewN _⟩
      | some v =>
      have h1 : Hid ((M s).getD 0 = v) := by rw [hm]; rfl
      have h2 : Hid ((M s).isSome = true) := by rw [hm]; rfl
      obtain ⟨i', hi', _, hv⟩ := only_entries hM HN.out hNum hm
      have hv0 : 0 ≤ v := by omega
      have hv1 : v < 4096 := by omega
      have hv2 : v + 1 ≤ (en : Int) := by omega
      clear hm hi' hv
      go_wp2_with (at_lookup; refine wpList_look_map hM (hb.trans (below_drewN _ _ _)) rfl _ _ rfl rfl s rfl hsm v true h1.out h2.out ?_)
      go_ret2
      exact ⟨by rw [h1.out, h2.out]; rfl, (hbW.trans (below_drewN _ _ _)).setCell (p := ⟨F, J, none⟩) HR.out.hB _, F, (HT.out.drewN _).set F J HR.out.hT _, (HR.out.drewN _).set J _ (by omega) hv2 hen⟩
    · obtain ⟨i, hi⟩ : ∃ i : Nat, x = (i : Int) + 1 := ⟨(x - 1).toNat, by omega⟩
      subst hi
      have hie : i < en := by omega
      have hieI : (i : Int) < (en : Int) := by omega
      obtain ⟨b, off, rfl, hbB, hc⟩ := hA i hie
      have hc' := (hb.cell (p := ⟨b, off + i, none⟩) hbB).trans hc
      have hne : ¬ E i = s := fun e => HA1.out ⟨hx2, hx3, by rw [show ((i : Int) + 1 - 1).toNat = i from by omega]; exact e⟩
      have hq : ((E i).toList == s.toList) = false := by
        rw [beq_eq_false_iff_ne]
        intro e
        rw [ByteArray.toList_eq, ByteArray.toList_eq] at e
        exact hne (bytes_ext (by simpa using congrArg List.length e) (fun j h1 h2 => by
          have h3 := congrArg (fun l => l[j]?) e
          simp only [Array.getElem?_toList] at h3
          have h4 : (E i).data[j]? = some ((E i)[j]) := Array.getElem?_eq_getElem h1
          have h5 : s.data[j]? = some (s[j]) := Array.getElem?_eq_getElem h2
          rw [h4, h5] at h3
          exact Option.some.inj h3))
      clear hA hc hne
      cases hm : M s with
      | none =>
      have h1 : Hid ((M s).getD 0 = 0) := by rw [hm]; rfl
      have h2 : Hid ((M s).isSome = false) := by rw [hm]; rfl
      clear hm
      go_wp2_with (at_lookup; refine wpList_look_map hM (hb.trans (below_drewN _ _ _)) rfl _ _ rfl rfl s rfl hsm 0 false h1.out h2.out ?_)
      go_ret2
      exact ⟨by rw [h1.out, h2.out]; rfl, hbW.trans (below_drewN _ _ _), F, HT.out.drewN _, HR.out.drewN _⟩
      | some v =>
      have h1 : Hid ((M s).getD 0 = v) := by rw [hm]; rfl
      have h2 : Hid ((M s).isSome = true) := by rw [hm]; rfl
      obtain ⟨i', hi', _, hv⟩ := only_entries hM HN.out hNum hm
      have hv0 : 0 ≤ v := by omega
      have hv1 : v < 4096 := by omega
      have hv2 : v + 1 ≤ (en : Int) := by omega
      clear hm hi' hv
      go_wp2_with (at_lookup; refine wpList_look_map hM (hb.trans (below_drewN _ _ _)) rfl _ _ rfl rfl s rfl hsm v true h1.out h2.out ?_)
      go_ret2
      exact ⟨by rw [h1.out, h2.out]; rfl, (hbW.trans (below_drewN _ _ _)).setCell (p := ⟨F, J, none⟩) HR.out.hB _, F, (HT.out.drewN _).set F J HR.out.hT _, (HR.out.drewN _).set J _ (by omega) hv2 hen⟩

end Go.Proofs.Qxb6603144a
