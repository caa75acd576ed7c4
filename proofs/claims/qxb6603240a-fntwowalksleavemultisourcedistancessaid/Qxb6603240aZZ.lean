/-
  THE WALK OF 'roster.ZZWalk'.
-/
import Derived.Test.Qxb6603240aWalk
import Derived.OwnWalk
namespace Go.Proofs.Qxb6603240a
open Go.RowKit Plain

/-- What ZZWalk leaves. -/
structure ZZLeft (w w' : World) (H1 A2 QB al n : Nat) (base : Int) (S : Nat → Prop) (ll : Nat → Nat) (Z : Nat → Nat → Int) (src : Nat) (aw0 : Nat → Int) (qa : Option Addr) (Q cap : Nat) (aw : Nat → Int) : Prop where
  cap63 : cap ≤ 9223372036854775807
  below : Below H1 w w'
  hQ : H1 ≤ Q
  hQA : Q ≠ A2
  oldv : (qa = some ⟨QB, 0, none⟩ ∧ Q = QB) ∨ w.heap.size ≤ Q
  pool : Pool w' Q cap
  haw : Ints w' A2 al aw
  fits : Fits al aw
  good : Plain.Good (Adj n ll Z) n base (fun z => S z ∨ z = src) aw
  far : ∀ z, base + n ≤ aw z → aw z = aw0 z
  past : ∀ z, n ≤ z → aw z = aw0 z
  keeps : Keeps (fun b => b < w.heap.size ∧ b ≠ A2 ∧ b ≠ Q) w w'

def ZZPost (w w' : World) (H1 A2 QB al n : Nat) (base : Int) (S : Nat → Prop) (ll : Nat → Nat) (Z : Nat → Nat → Int) (src : Nat) (aw0 : Nat → Int) (qa : Option Addr) (e : Ending) : Prop :=
  ∃ Q m cap aw, e = .returned (.tuple #[.slice (some ⟨Q, 0, none⟩) m cap, .slice (some ⟨A2, 0, none⟩) al al, .slice (some ⟨Q, 0, none⟩) m cap]) ∧ ZZLeft w w' H1 A2 QB al n base S ll Z src aw0 qa Q cap aw

set_option maxRecDepth 100000 in
set_option maxHeartbeats 4000000 in
theorem zzwalk_any (H1 G1 A2 QB n nc al ql qc src : Nat) (lift base : Int) (ll : Nat → Nat) (Z : Nat → Nat → Int) (aw0 : Nat → Int) (S : Nat → Prop) (qa : Option Addr) (w : World)
    (hL : LinksAt H1 w (some ⟨G1, 0, none⟩) n ll Z) (hin : InRange n n ll Z) (hll : ∀ i, i < n → ll i ≤ 1048576) (hn : n ≤ 1048576) (hnal : n ≤ al) (hal : al ≤ 1048576) (hH1 : H1 ≤ w.heap.size)
    (hA : Ints w A2 al aw0) (hAH : H1 ≤ A2) (hfit : Fits al aw0)
    (hq : QueueOk w H1 qa qc QB) (hqA : QB ≠ A2) (hqS : QB < w.heap.size) (hqc : qc ≤ 9223372036854775807)
    (hbase : IntKind.i32.wrap (0 - lift) = base) (hb1 : -2147483648 ≤ base) (hb2 : base + n ≤ 2147483647)
    (hG : Plain.Good (Adj n ll Z) n base S aw0) (hs : src < n) :
    Calls Try.prog 14 #[.slice (some ⟨G1, 0, none⟩) n nc, .slice (some ⟨A2, 0, none⟩) al al, .int .i32 lift, .slice qa ql qc, .int .i32 src] w fun e w' => ZZPost w w' H1 A2 QB al n base S ll Z src aw0 qa e := by
  go_enter Try.func14, Try.ntmps14
  go_wp2_with fail
  have hbl : Below w.heap.size w (w.alloc (.cells #[.slice (some ⟨G1, 0, none⟩) n nc, .slice (some ⟨A2, 0, none⟩) al al, .int .i32 lift, .bool false, .slice qa ql qc, .slice none 0 0] 41)) := (Below.refl _ _).alloc (Nat.le_refl _) _
  have hs1 : (w.alloc (.cells #[.slice (some ⟨G1, 0, none⟩) n nc, .slice (some ⟨A2, 0, none⟩) al al, .int .i32 lift, .bool false, .slice qa ql qc, .slice none 0 0] 41)).heap.size = w.heap.size + 1 := by simp
  have hc : ∀ i, (w.alloc (.cells #[.slice (some ⟨G1, 0, none⟩) n nc, .slice (some ⟨A2, 0, none⟩) al al, .int .i32 lift, .bool false, .slice qa ql qc, .slice none 0 0] 41)).cell? ⟨w.heap.size, i, none⟩ = #[.slice (some ⟨G1, 0, none⟩) n nc, .slice (some ⟨A2, 0, none⟩) al al, .int .i32 lift, .bool false, .slice qa ql qc, .slice none 0 0][i]? := fun i => World.cell?_alloc_at _ 41 w.heap.size i rfl
  have hf : (w.alloc (.cells #[.slice (some ⟨G1, 0, none⟩) n nc, .slice (some ⟨A2, 0, none⟩) al al, .int .i32 lift, .bool false, .slice qa ql qc, .slice none 0 0] 41)).frozen? ⟨w.heap.size, 4, none⟩ = false := by rw [World.frozen?_alloc_at _ 41 w.heap.size 4 rfl]
  generalize w.alloc (.cells #[.slice (some ⟨G1, 0, none⟩) n nc, .slice (some ⟨A2, 0, none⟩) al al, .int .i32 lift, .bool false, .slice qa ql qc, .slice none 0 0] 41) = w1 at hbl hs1 hc hf ⊢
  have hk : Keeps (fun b => b < w.heap.size) w w1 := Keeps.of_below hbl (fun _ h => h)
  have hAlt := hA.lt
  have hq1 : QueueOk w1 H1 qa qc QB := by
    rcases hq with h | ⟨h1, h2, h3⟩
    · exact .inl h
    · obtain ⟨X, hX⟩ := h2.ints
      exact .inr ⟨h1, (hX.kept hk hqS hbl.size).pool, h3⟩
  refine (walk_any H1 G1 w.heap.size A2 QB n nc al ql qc src lift base ll Z aw0 S qa w1 (hL.later (hbl.mono hH1)) hin hll hn hnal hal (by omega) hH1 (by omega) (hc 0) (hc 1) (hc 2) (hc 4) hf (hA.kept hk hAlt hbl.size) hAH hfit hq1 hqA (by omega) hqc hbase hb1 hb2 hG hs).mono ?_
  rintro e w2 ⟨Q, m, cap, aw, rfl, hl⟩
  have ht1 := hl.t1
  have ht4 := hl.t4
  have hfin : ∀ k, ZZLeft w (w2.drewN k) H1 A2 QB al n base S ll Z src aw0 qa Q cap aw := fun k => by
    refine ⟨hl.cap63, ((hbl.mono hH1).trans hl.below).trans (below_drewN _ _ _), hl.hQ, hl.hQA, ?_, ⟨hl.pool.lt, hl.pool.cell, hl.pool.free⟩, ⟨hl.haw.lt, hl.haw.cell, hl.haw.free⟩, hl.fits, hl.good, hl.far, hl.past, ?_⟩
    · rcases hl.oldv with h | h
      · exact .inl h
      · exact .inr (by omega)
    · exact (hk.less fun b h => h.1).trans ((hl.keeps.less fun b h => ⟨by omega, h.2.1, h.2.2, by omega⟩).trans (fun _ _ => rfl))
  have HF : Hid _ := hfin
  clear hfin hl hq1 hq hL hin hll hA hG hk hbl hfit hc
  go_wp2_with (go_quiet (fail))
  refine bodyPost_ret (results_tmp3 Try.results14 _ _ _) rfl ?_
  exact ⟨Q, m, cap, aw, rfl, HF.out _⟩

end Go.Proofs.Qxb6603240a
