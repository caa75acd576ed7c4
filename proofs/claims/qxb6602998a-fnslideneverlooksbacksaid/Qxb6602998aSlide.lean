/-
  THE WALKS: 'slide' and its small helpers, by contracts.
-/
import Derived.Test.Qxb6602998aRows
import Derived.WalkKit
import Derived.WalkSpells
import Derived.WalkLawsBesides
import Derived.Deep.QuietTactic
import Derived.BigQuiet
import Derived.BigRegion
import Derived.Deep.DrawnRows
import Derived.Laws.FloatArith
namespace Go.Proofs.Qxb6602998a
open Go.RowKit

/-- How many draws a float operation makes: one where it is invalid (its NaN's bits are asked for). -/
def fN (op : BinOp) (x y : Nat) : Nat := match floatBits op .f64 x y with
  | some _ => 0
  | none => if (Question.nanBits .f64 x y).forced then 0 else 1
/-- The bits that it gives. -/
def fB (op : BinOp) (x y : Nat) (w : World) : Nat := match floatBits op .f64 x y with
  | some r => r
  | none => if (Question.nanBits .f64 x y).forced then 0 else (Question.nanBits .f64 x y).cut (w.tape w.drawn (Question.nanBits .f64 x y))

theorem run_sub_any {P : Program} (t : TypeId) (x y : Nat) (w : World) : (binOp .sub t (.float .f64 x) (.float .f64 y)).run P w = .ok (.float .f64 (fB .sub x y w)) (w.drewN (fN .sub x y)) := by
  unfold fB fN
  cases h : floatBits .sub .f64 x y with
  | some r => rw [run_float_arith w .sub t .f64 x y r h]; rfl
  | none =>
    have h' : FloatKind.f64.format.sub x y = none := h
    by_cases hf : (Question.nanBits .f64 x y).forced = true
    · simp [binOp, Op.floatArith, h', hf]; rfl
    · simp [binOp, Op.floatArith, h', hf]; rfl

theorem run_mul_any {P : Program} (t : TypeId) (x y : Nat) (w : World) : (binOp .mul t (.float .f64 x) (.float .f64 y)).run P w = .ok (.float .f64 (fB .mul x y w)) (w.drewN (fN .mul x y)) := by
  unfold fB fN
  cases h : floatBits .mul .f64 x y with
  | some r => rw [run_float_arith w .mul t .f64 x y r h]; rfl
  | none =>
    have h' : FloatKind.f64.format.mul x y = none := h
    by_cases hf : (Question.nanBits .f64 x y).forced = true
    · simp [binOp, Op.floatArith, h', hf]; rfl
    · simp [binOp, Op.floatArith, h', hf]; rfl

theorem run_quo_any {P : Program} (t : TypeId) (x y : Nat) (w : World) : (binOp .quo t (.float .f64 x) (.float .f64 y)).run P w = .ok (.float .f64 (fB .quo x y w)) (w.drewN (fN .quo x y)) := by
  unfold fB fN
  cases h : floatBits .quo .f64 x y with
  | some r => rw [run_float_arith w .quo t .f64 x y r h]; rfl
  | none =>
    have h' : FloatKind.f64.format.div x y = none := h
    by_cases hf : (Question.nanBits .f64 x y).forced = true
    · simp [binOp, Op.floatArith, h', hf]; rfl
    · simp [binOp, Op.floatArith, h', hf]; rfl

theorem run_store_float {P : Program} (w : World) (a : Addr) (m : Mode) (k : FloatKind) (x : Nat) : (store a (.float k x) m).run P w = stored P w a (.float k x) m := run_store P w a _ m rfl
attribute [local go_sem] run_store_float

/-- The meter lies in block b, its three fields' bits. -/
structure Meter (b s l n : Nat) (w : World) : Prop where
  c0 : w.cell? ⟨b, 0, none⟩ = some (.float .f64 s)
  c1 : w.cell? ⟨b, 1, none⟩ = some (.float .f64 l)
  c2 : w.cell? ⟨b, 2, none⟩ = some (.float .f64 n)
  f0 : w.frozen? ⟨b, 0, none⟩ = false
  f1 : w.frozen? ⟨b, 1, none⟩ = false
  f2 : w.frozen? ⟨b, 2, none⟩ = false

/-- 'from <= start': nothing happens. -/
theorem slide_rests (b s l n now r : Nat) (w : World) (hm : Meter b s l n w) (hr : floatBits .sub .f64 now 4626322717216342016 = some r)
    (hle : (FloatKind.f64.format.order r s == some .lt || FloatKind.f64.format.order r s == some .eq) = true) :
    Calls Try.prog 24 #[.pointer (some ⟨b, 0, none⟩), .float .f64 now] w fun e w' => e = .returned (.tuple #[]) ∧ w' = w := by
  obtain ⟨c0, c1, c2, f0, f1, f2⟩ := hm
  have hsub := fun w => run_float_arith (P := Try.prog) w .sub 32 .f64 now 4626322717216342016 r hr
  clear hr
  go_enter Try.func24, Try.ntmps24
  go_wp2
  exact bodyPost_ret (v := .tuple #[]) (by simp [results, Try.results24]) rfl ⟨rfl, rfl⟩

/-- The world with the meter moved. -/
theorem moved {b s l n r n' : Nat} {w : World} (hm : Meter b s l n w) :
    Meter b r l n' ((w.setCell ⟨b, 2, none⟩ (.float .f64 n')).setCell ⟨b, 0, none⟩ (.float .f64 r)) ∧ Below b w ((w.setCell ⟨b, 2, none⟩ (.float .f64 n')).setCell ⟨b, 0, none⟩ (.float .f64 r)) := by
  obtain ⟨c0, c1, c2, f0, f1, f2⟩ := hm
  refine ⟨⟨?_, ?_, ?_, ?_, ?_, ?_⟩, ?_⟩
  · go_simp
  · go_simp
  · go_simp
  · go_simp
  · go_simp
  · go_simp
  · exact ((Below.refl b w).setCell (Nat.le_refl b) _).setCell (Nat.le_refl b) _

theorem moved_drewN {b s l n r n' : Nat} {w : World} (hm : Meter b s l n w) (k : Nat) :
    Meter b r l n' (((w.drewN k).setCell ⟨b, 2, none⟩ (.float .f64 n')).setCell ⟨b, 0, none⟩ (.float .f64 r)) ∧ Below b w (((w.drewN k).setCell ⟨b, 2, none⟩ (.float .f64 n')).setCell ⟨b, 0, none⟩ (.float .f64 r)) := by
  have hm' : Meter b s l n (w.drewN k) := ⟨hm.c0, hm.c1, hm.c2, hm.f0, hm.f1, hm.f2⟩
  have hb : Below b w (w.drewN k) := ⟨rfl, rfl, rfl, Nat.le_refl _, fun _ _ => rfl⟩
  exact ⟨(moved hm').1, hb.trans (moved hm').2⟩

set_option maxHeartbeats 1000000 in
/-- 'from > start', or one of the two is no number: the start becomes 'from'; the bytes become something. -/
theorem slide_moves (b s l n now r : Nat) (w : World) (hm : Meter b s l n w) (hr : floatBits .sub .f64 now 4626322717216342016 = some r)
    (hle : (FloatKind.f64.format.order r s == some .lt || FloatKind.f64.format.order r s == some .eq) = false) :
    Calls Try.prog 24 #[.pointer (some ⟨b, 0, none⟩), .float .f64 now] w fun e w' => e = .returned (.tuple #[]) ∧ (∃ n', Meter b r l n' w') ∧ Below b w w' := by
  have hm' := hm
  obtain ⟨c0, c1, c2, f0, f1, f2⟩ := hm
  have hsub := fun w => run_float_arith (P := Try.prog) w .sub 32 .f64 now 4626322717216342016 r hr
  clear hr
  have H : Hid (Meter b s l n w) := hm'
  clear hm'
  by_cases hge : (FloatKind.f64.format.order r l == some .gt || FloatKind.f64.format.order r l == some .eq) = true
  · go_enter Try.func24, Try.ntmps24
    go_wp2
    go_end0
    have hmv := moved (r := r) (n' := 0) H.out
    exact ⟨rfl, ⟨_, hmv.1⟩, hmv.2⟩
  · have hge' : (FloatKind.f64.format.order r l == some .gt || FloatKind.f64.format.order r l == some .eq) = false := by simpa using hge
    clear hge
    go_enter Try.func24, Try.ntmps24
    go_wp2
    clear hsub
    have hs := fun x y w => run_sub_any (P := Try.prog) 32 x y w
    have hmu := fun x y w => run_mul_any (P := Try.prog) 32 x y w
    have hq := fun x y w => run_quo_any (P := Try.prog) 32 x y w
    go_region
    all_goals
      go_wp2
      go_end0
      exact ⟨rfl, ⟨_, (moved_drewN H.out _).1⟩, (moved_drewN H.out _).2⟩

/-- 'slide' through its exported name. -/
theorem zzslide_rests (b s l n now r : Nat) (w : World) (hm : Meter b s l n w) (hr : floatBits .sub .f64 now 4626322717216342016 = some r)
    (hle : (FloatKind.f64.format.order r s == some .lt || FloatKind.f64.format.order r s == some .eq) = true) :
    Calls Try.prog 19 #[.pointer (some ⟨b, 0, none⟩), .float .f64 now] w fun e w' => e = .returned (.tuple #[]) ∧ w' = w := by
  go_enter Try.func19, Try.ntmps19
  go_wp2_with fail
  refine (slide_rests b s l n now r _ hm hr hle).mono ?_
  rintro e w' ⟨rfl, rfl⟩
  go_wp2
  go_end0
  exact ⟨rfl, rfl⟩

theorem zzslide_moves (b s l n now r : Nat) (w : World) (hm : Meter b s l n w) (hr : floatBits .sub .f64 now 4626322717216342016 = some r)
    (hle : (FloatKind.f64.format.order r s == some .lt || FloatKind.f64.format.order r s == some .eq) = false) :
    Calls Try.prog 19 #[.pointer (some ⟨b, 0, none⟩), .float .f64 now] w fun e w' => e = .returned (.tuple #[]) ∧ (∃ n', Meter b r l n' w') ∧ Below b w w' := by
  go_enter Try.func19, Try.ntmps19
  go_wp2_with fail
  refine (slide_moves b s l n now r _ hm hr hle).mono ?_
  rintro e w' ⟨rfl, h⟩
  have H2 : Hid _ := h
  clear h
  go_wp2
  go_end0
  exact ⟨rfl, H2.out⟩

/-- The three fields are read back. -/
theorem fields_any (b s l n : Nat) (w : World) (hm : Meter b s l n w) :
    Calls Try.prog 20 #[.pointer (some ⟨b, 0, none⟩)] w fun e w' => e = .returned (.tuple #[.float .f64 s, .float .f64 l, .float .f64 n]) ∧ ∃ k, w' = w.drewN k := by
  obtain ⟨c0, c1, c2, f0, f1, f2⟩ := hm
  go_enter Try.func20, Try.ntmps20
  go_wp2
  go_quiet (fail)
  go_wp2
  go_ret3
  exact ⟨rfl, _, rfl⟩

/-- A new meter. -/
theorem new_any (s l n : Nat) (w : World) :
    Calls Try.prog 18 #[.float .f64 s, .float .f64 l, .float .f64 n] w fun e w' => e = .returned (.pointer (some ⟨w.heap.size, 0, none⟩)) ∧ Meter w.heap.size s l n w' ∧ Below w.heap.size w w' := by
  go_enter Try.func18, Try.ntmps18
  go_wp2
  go_ret
  refine ⟨rfl, ⟨?_, ?_, ?_, ?_, ?_, ?_⟩, (Below.refl _ _).alloc (Nat.le_refl _) _⟩
  all_goals go_simp

/-- One and the same float, told from itself. -/
theorem same_self (x : Nat) (w : World) :
    Calls Try.prog 21 #[.float .f64 x, .float .f64 x] w fun e w' => e = .returned (.bool true) ∧ w' = w := by
  by_cases h : (FloatKind.f64.format.order x x == some .eq) = true
  · go_enter Try.func21, Try.ntmps21
    go_wp2
    go_ret
    exact ⟨rfl, rfl⟩
  · have h1 : (FloatKind.f64.format.order x x == some .eq) = false := by simpa using h
    have h2 : (FloatKind.f64.format.order x x != some .eq) = true := by simp [bne, h1]
    clear h
    go_enter Try.func21, Try.ntmps21
    go_wp2
    go_ret
    exact ⟨rfl, rfl⟩

end Go.Proofs.Qxb6602998a
