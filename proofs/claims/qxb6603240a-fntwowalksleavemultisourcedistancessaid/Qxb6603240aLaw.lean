/-
  THE WALK OF THE LAW.
-/
import Derived.Test.Qxb6603240aBell
namespace Go.Proofs.Qxb6603240a
open Go.RowKit Plain

/-- How the memory is laid out behind the clones. -/
structure Laid (w w4 : World) (H1 A2 n l1 QB qc : Nat) (qa : Option Addr) (ll : Nat → Nat) (Z : Nat → Nat → Int) (X1 : Nat → Int) : Prop where
  links : LinksAt H1 w4 (some ⟨w.heap.size, 0, none⟩) n ll Z
  aw : Ints w4 A2 l1 X1
  away : Ints w4 H1 l1 X1
  queue : QueueOk w4 H1 qa qc QB
  below : Below w.heap.size w w4
  h1 : w.heap.size ≤ H1
  h2 : H1 < A2
  h3 : A2 < w4.heap.size
  q1 : QB < A2
  q2 : ∀ x, qa = some x → H1 < QB

theorem QueueOk.later {w w' : World} {H1 B c QB : Nat} {qa : Option Addr} (h : QueueOk w H1 qa c QB) (hb : Below B w w') (hB : QB < B) : QueueOk w' H1 qa c QB := by
  rcases h with h | ⟨h1, h2, h3⟩
  · exact .inl h
  · obtain ⟨X, hX⟩ := h2.ints
    exact .inr ⟨h1, (hX.kept (Keeps.of_below (P := fun b => b < B) hb (fun _ h => h)) hB hb.size).pool, h3⟩

def MidRel (w4 : World) (D n : Nat) (ll : Nat → Nat) (Z : Nat → Nat → Int) (S : Nat → Prop) (r : Nat) (cv yv : Value) (wr : World) : Prop :=
  ∃ (c : Bool) (y : Nat), y ≤ n ∧ cv = .bool c ∧ yv = .int .i64 y ∧ RndAt w4 wr D n ll Z S r y c
def InRel (w4 : World) (D n : Nat) (ll : Nat → Nat) (Z : Nat → Nat → Int) (S : Nat → Prop) (r y : Nat) (cv jv : Value) (wr : World) : Prop :=
  ∃ (c : Bool) (j : Nat), j ≤ ll y ∧ cv = .bool c ∧ jv = .int .i64 j ∧ LinkAt w4 wr D n ll Z S r y c j

/-- What stands before the last loop. -/
structure Finale (w w7 : World) (H1 A2 D n l1 : Nat) (base : Int) (X1 dd aw2 : Nat → Int) : Prop where
  away : Ints w7 H1 l1 X1
  aw : Ints w7 A2 l1 aw2
  dist : Ints w7 D n dd
  lo : ∀ i, i < n → -1 ≤ dd i ∧ dd i < n
  got : ∀ i, i < n → 0 ≤ dd i → aw2 i = base + dd i
  unmet : ∀ i, (i < n → dd i < 0) → aw2 i = X1 i
  below : Below w.heap.size w w7

theorem finale {w w4 wr w6 w7 : World} {H1 A2 n l1 QB qc a b Q1 cap1 Q2 cap2 : Nat} {base : Int} {qa : Option Addr} {ll : Nat → Nat} {Z : Nat → Nat → Int} {X1 dd aw1 aw2 : Nat → Int}
    (hld : Laid w w4 H1 A2 n l1 QB qc qa ll Z X1) (hd : DistAt w4 wr w4.heap.size n dd) (hbf : Bf (Adj n ll Z) n (fun z => z = a ∨ z = b) dd) (hup : Upto (Adj n ll Z) (fun z => z = a ∨ z = b) n dd)
    (hz1 : ZZLeft wr w6 H1 A2 QB l1 n base (fun _ => False) ll Z a X1 qa Q1 cap1 aw1) (hz2 : ZZLeft w6 w7 H1 A2 Q1 l1 n base (fun z => False ∨ z = a) ll Z b aw1 (some ⟨Q1, 0, none⟩) Q2 cap2 aw2)
    : Finale w w7 H1 A2 w4.heap.size n l1 base X1 dd aw2 := by
  have hS : (fun z => (False ∨ z = a) ∨ z = b) = (fun z => z = a ∨ z = b) := by funext z; simp
  have hg := hz2.good
  rw [hS] at hg
  have z1 := hld.h1
  have z2 := hld.h2
  have z3 := hld.h3
  have zq := hld.q1
  have zD := hd.ints.lt
  have s1 := hd.below.size
  have s2 := hz1.below.size
  have s3 := hz2.below.size
  have hk4 : Keeps (fun b => b < w4.heap.size) w4 wr := Keeps.of_below hd.below (fun _ h => h)
  have hQ1 : H1 ≠ Q1 ∧ w4.heap.size ≠ Q1 := by
    rcases hz1.oldv with ⟨h1, h2⟩ | h
    · have := hld.q2 _ h1
      omega
    · omega
  have hQ2 : H1 ≠ Q2 ∧ w4.heap.size ≠ Q2 := by
    rcases hz2.oldv with ⟨_, h2⟩ | h
    · omega
    · omega
  have hA := fun z (hz : z < n) => agree hbf hup hg (by omega) hz
  refine ⟨((hld.away.kept hk4 (by omega) s1).kept hz1.keeps ⟨by omega, by omega, hQ1.1⟩ s2).kept hz2.keeps ⟨by omega, by omega, hQ2.1⟩ s3, hz2.haw, (hd.ints.kept hz1.keeps ⟨by omega, by omega, hQ1.2⟩ s2).kept hz2.keeps ⟨by omega, by omega, hQ2.2⟩ s3, fun i hi => ?_, fun i hi h0 => (hA i hi).1 h0, fun i hi => ?_, ?_⟩
  · have h1 := hbf.lo i hi
    have h2 := cnt_le dd n
    omega
  · by_cases h : i < n
    · have h1 := (hA i h).2 (hi h)
      have h2 := hz2.far i h1
      rw [h2] at h1 ⊢
      exact hz1.far i h1
    · rw [hz2.past i (by omega), hz1.past i (by omega)]
  · exact hld.below.trans ((hd.below.mono (by omega)).trans ((hz1.below.mono z1).trans (hz2.below.mono z1)))

set_option maxRecDepth 100000 in
set_option maxHeartbeats 8000000 in
theorem law_any (a0 a1 a3 : Option Addr) (n l1 l3 c0 c1 c3 : Nat) (lift a b : Int) (ll : Nat → Nat) (Z : Nat → Nat → Int) (X1 X3 : Nat → Int) (w : World)
    (hA : LinksAt w.heap.size w a0 n ll Z) (hll : ∀ i, i < n → ll i ≤ maxLen) (hZ : ∀ i j, i < n → j < ll i → -2147483648 ≤ Z i j ∧ Z i j ≤ 2147483647)
    (hR1 : RowAt w.heap.size w a1 l1 X1) (hX1 : Fits l1 X1) (hR3 : RowAt w.heap.size w a3 l3 X3)
    (h0 : n ≤ maxLen) (h1 : l1 ≤ maxLen) (h3 : l3 ≤ maxLen) (ha1 : -2147483648 ≤ a) (ha2 : a ≤ 2147483647) (hb1 : -2147483648 ≤ b) (hb2 : b ≤ 2147483647) :
    Calls Try.prog 5 #[.slice a0 n c0, .slice a1 l1 c1, .int .i32 lift, .slice a3 l3 c3, .int .i32 a, .int .i32 b] w fun e w' => e = .returned (.bool true) ∧ Below w.heap.size w w' := by
  obtain ⟨base, hbase⟩ : ∃ base, IntKind.i32.wrap (0 - lift) = base := ⟨_, rfl⟩
  have hbw := Go.wrap_within .i32 (0 - lift)
  rw [hbase, show IntKind.i32.min = -2147483648 from rfl, show IntKind.i32.max = 2147483647 from rfl] at hbw
  go_enter Try.func5, Try.ntmps5
  go_wp2_with fail
  refine (bytes_all w.heap.size a0 a1 a3 n l1 l3 c0 c1 c3 lift a b ll Z w hA hll h0 h1 h3).mono ?_
  rintro e w ⟨⟨rv, rfl, hrv⟩, rfl⟩
  cases rv with
  | false =>
    clear hA hll hZ hR1 hR3 hX1
    go_wp2
    go_ret
    exact ⟨rfl, Below.refl _ _⟩
  | true =>
  obtain ⟨hn, hl1, hl3, hrows⟩ := hrv rfl
  clear h0 h1 h3 hrv
  go_wp2_with fail
  refine (linksBytes_any w.heap.size a0 n c0 ll Z w hA hll hn).mono ?_
  rintro e w ⟨⟨t, rfl, ht0, ht1⟩, rfl⟩
  by_cases hsum : (1048576 : Int) < t + 4 * (l1 : Int) + 4 * (l3 : Int)
  · clear hA hll hZ hR1 hR3 hX1 hrows
    go_wp2
    go_ret
    exact ⟨rfl, Below.refl _ _⟩
  by_cases hn0 : n = 0
  · subst hn0
    clear hA hll hZ hR1 hR3 hX1 hrows
    go_wp2
    go_ret
    exact ⟨rfl, Below.refl _ _⟩
  have hn0B : ((n : Int) == 0) = false := by simpa using hn0
  by_cases hane : a < 0
  · clear hA hll hZ hR1 hR3 hX1 hrows
    go_wp2
    go_ret
    exact ⟨rfl, Below.refl _ _⟩
  by_cases hage : (n : Int) ≤ a
  · clear hA hll hZ hR1 hR3 hX1 hrows
    go_wp2
    go_ret
    exact ⟨rfl, Below.refl _ _⟩
  by_cases hbne : b < 0
  · clear hA hll hZ hR1 hR3 hX1 hrows
    go_wp2
    go_ret
    exact ⟨rfl, Below.refl _ _⟩
  by_cases hbge : (n : Int) ≤ b
  · clear hA hll hZ hR1 hR3 hX1 hrows
    go_wp2
    go_ret
    exact ⟨rfl, Below.refl _ _⟩
  by_cases hlen : (l1 : Int) < n
  · clear hA hll hZ hR1 hR3 hX1 hrows
    go_wp2
    go_ret
    exact ⟨rfl, Below.refl _ _⟩
  obtain ⟨a', rfl⟩ := Int.eq_ofNat_of_zero_le (Int.not_lt.1 hane)
  obtain ⟨b', rfl⟩ := Int.eq_ofNat_of_zero_le (Int.not_lt.1 hbne)
  have haN : a' < n := by omega
  have hbN : b' < n := by omega
  go_wp2_with fail
  refine (inRange_any w.heap.size a0 n c0 n ll Z w hA hll hn hZ).mono ?_
  rintro e w ⟨⟨rv, rfl, hrv⟩, rfl⟩
  cases rv with
  | false =>
    clear hA hll hZ hR1 hR3 hX1 hrows
    go_wp2
    go_ret
    exact ⟨rfl, Below.refl _ _⟩
  | true =>
  have HIN : Hid (InRange n n ll Z) := hrv rfl
  have hbw1 := hbw.1
  have hbw2 := hbw.2
  clear hrv hZ hll hsum ht0 ht1 hbw
  by_cases hmx : (2147483647 : Int) < base + n
  · clear hA hR1 hR3 hX1 hrows
    go_wp2_with (refine wpList_neg rfl _ _ rfl lift base rfl hbase ?_)
    go_ret
    exact ⟨rfl, Below.refl _ _⟩
  go_wp2_with (refine wpList_neg rfl _ _ rfl lift base rfl hbase ?_)
  go_loop [15] (fun i => ∃ k : Nat, k ≤ n ∧ i = .int .i64 k ∧ ∀ x, x < k → base + n ≤ X1 x) (fun i => n - (intOf i).toNat)
  case atStart => exact ⟨0, Nat.zero_le _, by go_num, fun x hx => absurd hx (Nat.not_lt_zero _)⟩
  case round =>
    obtain ⟨k, hk, rfl, hfar⟩ := hrel
    have HF : Hid (∀ x, x < k → base + n ≤ X1 x) := hfar
    clear hfar
    by_cases hlt : k < n
    · obtain ⟨b1, o1, rfl, hbB, hc⟩ := hR1 k (by omega)
      have hx1 := (hX1 k (by omega)).1
      have hx2 := (hX1 k (by omega)).2
      have hkI : (k : Int) < (n : Int) := by omega
      have hkI1 : (k : Int) < (l1 : Int) := by omega
      clear hA hR1 hR3 hX1 hrows
      by_cases hnear : X1 k < base + n
      · go_wp2
        go_ret
        exact ⟨rfl, Below.refl _ _⟩
      · go_wp2
        go_round
        case rel =>
          refine ⟨k + 1, by omega, by go_num, fun x hx => ?_⟩
          by_cases e : x = k
          · subst e; omega
          · exact HF.out x (by omega)
        case measure => simp [intOf]; omega
    · have hkn : n = k := by omega
      subst hkn
      obtain ⟨b0, o0, _, _, rfl, _, _, _⟩ := hA 0 (by omega)
      obtain ⟨b1, o1, rfl, _, _⟩ := hR1 0 (by omega)
      go_wp2_with fail
      refine (cloneLinks_any ⟨b0, o0, none⟩ n c0 ll Z w hn hrows hA).mono ?_
      rintro e w1 ⟨rfl, hbl1, hL1⟩
      have hR1' : RowAt w1.heap.size w1 (some ⟨b1, o1, none⟩) l1 X1 := fun j hj => by
        obtain ⟨b, off, h1, h2, h3⟩ := hR1 j hj
        exact ⟨b, off, h1, Nat.lt_of_lt_of_le h2 hbl1.size, (hbl1.cell (p := ⟨b, off + j, none⟩) h2).trans h3⟩
      go_wp2_with fail
      refine (cloneI32_some ⟨b1, o1, none⟩ l1 c1 X1 w1 hl1 hR1').mono ?_
      rintro e w2 ⟨rfl, hbl2, hsz2, hI2⟩
      have hbl02 : Below w.heap.size w w2 := hbl1.trans (hbl2.mono hbl1.size)
      have hR3' : RowAt w2.heap.size w2 a3 l3 X3 := fun j hj => by
        obtain ⟨b, off, h1, h2, h3⟩ := hR3 j hj
        exact ⟨b, off, h1, Nat.lt_of_lt_of_le h2 hbl02.size, (hbl02.cell (p := ⟨b, off + j, none⟩) h2).trans h3⟩
      go_wp2_with fail
      refine (cloneQueue a3 l3 c3 w1.heap.size X3 w2 hl3 (by omega) (by omega) hR3').mono ?_
      rintro e w3 ⟨qa, ql, qc, QB, rfl, hbl3, hqc, hQ3, hQB3, hQBn⟩
      have hI3 := hI2.kept (Keeps.of_below (P := fun b => b < w2.heap.size) hbl3 (fun _ h => h)) hI2.lt hbl3.size
      have hR1'' : RowAt w3.heap.size w3 (some ⟨w1.heap.size, 0, none⟩) l1 X1 := fun j hj => ⟨w1.heap.size, 0, rfl, hI3.lt, by rw [Nat.zero_add]; exact hI3.cell j hj⟩
      go_wp2_with fail
      refine (cloneI32_some ⟨w1.heap.size, 0, none⟩ l1 l1 X1 w3 hl1 hR1'').mono ?_
      rintro e w4 ⟨rfl, hbl4, hsz4, hI4⟩
      have hlaid : Laid w w4 w1.heap.size w3.heap.size n l1 QB qc qa ll Z X1 := by
        have hb23 : Below w1.heap.size w1 w3 := hbl2.trans (hbl3.mono (by omega))
        have hb24 : Below w1.heap.size w1 w4 := hb23.trans (hbl4.mono hb23.size)
        have hs3 := hbl3.size
        exact ⟨hL1.later hb24, hI4, hI3.kept (Keeps.of_below (P := fun b => b < w3.heap.size) hbl4 (fun _ h => h)) hI3.lt hbl4.size, hQ3.later hbl4 hQB3, hbl1.trans (hb24.mono hbl1.size), hbl1.size, hI3.lt, hI4.lt, hQB3, fun x hx => by have := hQBn x hx; omega⟩
      have HLD : Hid _ := hlaid
      have HX1 : Hid (Fits l1 X1) := hX1
      have HWR : Hid (∀ i, i < n → ll i ≤ 1048576) := hrows
      clear hlaid hA hR1 hR3 hX1 hrows hL1 hR1' hI2 hbl02 hR3' hQ3 hI3 hR1'' hI4 hbl1 hbl2 hbl3 hbl4 hQBn hQB3 hsz2 hsz4
      go_wp2_with (refine wpList_make_new rfl 23 21 _ rfl Try.underlying23 (.int .i32 0) zero21 1 4 info21 n rfl (by omega) (by omega) ?_; intro w5 hw5)
      go_loopw [18] (fun i wr => ∃ k : Nat, k ≤ n ∧ i = .int .i64 k ∧ Below w4.heap.size w4 wr ∧ wr.heap.size = w4.heap.size + 1 ∧ wr.there w4.heap.size 0 n ∧ ∀ i, i < k → wr.cell? ⟨w4.heap.size, i, none⟩ = some (.int .i32 (-1))) (fun i _ => n - (intOf i).toNat)
      case atStart => exact ⟨0, Nat.zero_le _, by go_num, hw5.below, hw5.size, by simpa using hw5.there, fun i hi => absurd hi (Nat.not_lt_zero _)⟩
      case round =>
        obtain ⟨k, hk, rfl, hb, hsz, hth, hdone⟩ := hrel
        have HD : Hid (∀ i, i < k → wr.cell? ⟨w4.heap.size, i, none⟩ = some (.int .i32 (-1))) := hdone
        clear hdone
        by_cases hlt : k < n
        · obtain ⟨u, hu⟩ := Option.isSome_iff_exists.1 (hth k hlt).1
          have hf := (hth k hlt).2
          simp only [Nat.zero_add] at hu hf
          have hI : (k : Int) < (n : Int) := by omega
          have HTH : Hid (wr.there w4.heap.size 0 n) := hth
          clear hth hw5
          go_wp2
          go_roundw
          case rel =>
            refine ⟨k + 1, by omega, by go_num, hb.setCell (p := ⟨w4.heap.size, k, none⟩) (Nat.le_refl _) _, by simpa using hsz, ?_, ?_⟩
            · have := World.there_setCells HTH.out w4.heap.size k [Value.int .i32 (-1)]
              simpa [World.setCells] using this
            · intro i hi
              by_cases e : i = k
              · subst e; exact World.cell?_setCell_same _ _ _ hu
              · rw [World.cell?_setCell_other _ _ _ _ (by intro h; simp at h <;> omega)]
                exact HD.out i (by omega)
          case measure => simp [intOf]; omega
        · have hkn : n = k := by omega
          subst hkn
          have hd0 : DistAt w4 wr w4.heap.size n (fun _ => -1) := ⟨hb, by omega, HD.out, fun i hi => by have := (hth i hi).2; simpa using this⟩
          have hd1 := hd0.put haN 0
          have hd2 := hd1.put hbN 0
          have hca := hd0.ints.cell a' haN
          have hfa := hd0.ints.free a' haN
          have hcb := hd1.ints.cell b' hbN
          have hfb := hd1.ints.free b' hbN
          have hr0 : RoundAt w4 ((wr.setCell ⟨w4.heap.size, a', none⟩ (.int .i32 0)).setCell ⟨w4.heap.size, b', none⟩ (.int .i32 0)) w4.heap.size n ll Z (fun z => z = a' ∨ z = b') 0 := ⟨_, hd2, bf_start haN hbN, upto_zero (bf_start haN hbN)⟩
          have HR0 : Hid _ := hr0
          have haNI : (a' : Int) < (n : Int) := by omega
          have hbNI : (b' : Int) < (n : Int) := by omega
          clear hr0 hd0 hd1 hd2 hth hb hsz hw5 HD
          go_wp2
          go_loopw [19] (fun rv wr => ∃ r : Nat, r ≤ n ∧ rv = .int .i64 r ∧ RoundAt w4 wr w4.heap.size n ll Z (fun z => z = a' ∨ z = b') r) (fun rv _ => n - (intOf rv).toNat)
          case atStart => exact ⟨0, Nat.zero_le _, by go_num, HR0.out⟩
          case round =>
            obtain ⟨r, hr, rfl, hRA⟩ := hrel
            clear HR0 hca hfa hcb hfb
            by_cases hlt : r < n
            · have hM : MidRel w4 w4.heap.size n ll Z (fun z => z = a' ∨ z = b') r (.bool false) (.int .i64 0) wr := by
                obtain ⟨dd, hd, hbf, hup⟩ := hRA
                exact ⟨false, 0, Nat.zero_le _, rfl, by go_num, dd, hd, rnd_start hbf hup⟩
              have HM : Hid _ := hM
              have hrI : (r : Int) < (n : Int) := by omega
              clear hM hRA
              go_wp2
              go_loopw [20, 21] (fun cv yv wr => MidRel w4 w4.heap.size n ll Z (fun z => z = a' ∨ z = b') r cv yv wr) (fun _ yv _ => n - (intOf yv).toNat)
              case atStart => exact HM.out
              case round =>
                obtain ⟨c, y, hy, rfl, rfl, dd, hd, hrnd⟩ := hrel
                clear HM
                by_cases hlty : y < n
                · have hcy := hd.ints.cell y hlty
                  have hylo := hrnd.bf.lo y hlty
                  have hcn := cnt_le dd n
                  have hyI : (y : Int) < (n : Int) := by omega
                  by_cases hneg : dd y < 0
                  · have hM2 : RndAt w4 wr w4.heap.size n ll Z (fun z => z = a' ∨ z = b') r (y + 1) c := ⟨dd, hd, rnd_skip hrnd hneg⟩
                    have HM2 : Hid _ := hM2
                    clear hM2 hd hrnd
                    go_wp2
                    go_roundw
                    case rel => exact ⟨c, y + 1, by omega, rfl, by go_num, HM2.out⟩
                    case measure => simp [intOf]; omega
                  · have hI0 : InRel w4 w4.heap.size n ll Z (fun z => z = a' ∨ z = b') r y (.bool c) (.int .i64 0) wr := ⟨c, 0, Nat.zero_le _, rfl, by go_num, dd, hd, links_start hrnd (by omega)⟩
                    have HI0 : Hid _ := hI0
                    have hz1 := HLD.out.h1
                    have hz2 := HLD.out.h2
                    have hz3 := HLD.out.h3
                    obtain ⟨b, off, A, C, hbo, hbH, hrowc0, hrow⟩ := HLD.out.links y hlty
                    cases hbo
                    have hrowc := (hd.below.cell (p := ⟨w.heap.size, 0 + y, none⟩) (show w.heap.size < w4.heap.size by omega)).trans hrowc0
                    simp only [Nat.zero_add] at hrowc
                    have HRW : Hid _ := hrow
                    have hlly := HWR.out y hlty
                    clear hI0 hd hrnd hrow hrowc0 hz1 hz2 hz3
                    go_wp2
                    go_loopw [20, 23] (fun cv jv wr => InRel w4 w4.heap.size n ll Z (fun z => z = a' ∨ z = b') r y cv jv wr) (fun _ jv _ => ll y - (intOf jv).toNat)
                    case atStart => exact HI0.out
                    case round =>
                      obtain ⟨c, j, hj, rfl, rfl, dd, hd, hlk⟩ := hrel
                      clear HI0 hcy hylo hcn hneg hrowc
                      by_cases hltj : j < ll y
                      · have hjI : (j : Int) < (ll y : Int) := by omega
                        have hrowy : RowAt w1.heap.size w4 A (ll y) (Z y) := HRW.out
                        obtain ⟨bb, oo, rfl, hbH', hcj0⟩ := hrowy j hltj
                        have hcj := (hd.below.cell (p := ⟨bb, oo + j, none⟩) (show bb < w4.heap.size by have := HLD.out.h2; have := HLD.out.h3; omega)).trans hcj0
                        have hzr := HIN.out y hlty j hltj
                        obtain ⟨z, hz⟩ : ∃ z : Nat, Z y j = (z : Int) := ⟨(Z y j).toNat, by omega⟩
                        rw [hz] at hcj hzr
                        have hzn : z < n := by omega
                        have hznI : (z : Int) < (n : Int) := by omega
                        have hcy := hd.ints.cell y hlty
                        have hcz := hd.ints.cell z hzn
                        have hfz := hd.ints.free z hzn
                        have hpos := hlk.posm
                        have hylo := (hlk.rnd.bf.lo y hlty).2
                        have hzlo := (hlk.rnd.bf.lo z hzn).2
                        have hcn := (cnt_le dd n).2
                        have hyb : dd y + 1 ≤ 1048576 := by omega
                        have hzb : dd z ≤ 1048576 := by omega
                        have hzm := (hlk.rnd.bf.lo z hzn).1
                        clear hcj0 hrowy HRW hylo hzlo hcn
                        by_cases hz0 : dd z < 0
                        · have hI2 : ∀ k, LinkAt w4 ((wr.drewN k).setCell ⟨w4.heap.size, z, none⟩ (.int .i32 (dd y + 1))) w4.heap.size n ll Z (fun z => z = a' ∨ z = b') r y true (j + 1) := fun k => ⟨_, (hd.drewN k).put hzn _, links_relax hlk hlty hltj hz hzn (.inl hz0)⟩
                          have HI2 : Hid _ := hI2
                          clear hI2 hd hlk
                          go_wp2_with (go_quiet (fail))
                          go_roundw
                          case rel => exact ⟨true, j + 1, by omega, rfl, by go_num, HI2.out _⟩
                          case measure => simp [intOf]; omega
                        by_cases hz1 : dd y + 1 < dd z
                        · have hI2 : ∀ k, LinkAt w4 ((wr.drewN k).setCell ⟨w4.heap.size, z, none⟩ (.int .i32 (dd y + 1))) w4.heap.size n ll Z (fun z => z = a' ∨ z = b') r y true (j + 1) := fun k => ⟨_, (hd.drewN k).put hzn _, links_relax hlk hlty hltj hz hzn (.inr hz1)⟩
                          have HI2 : Hid _ := hI2
                          clear hI2 hd hlk
                          go_wp2_with (go_quiet (fail))
                          go_roundw
                          case rel => exact ⟨true, j + 1, by omega, rfl, by go_num, HI2.out _⟩
                          case measure => simp [intOf]; omega
                        · have hI2 : ∀ k, LinkAt w4 (wr.drewN k) w4.heap.size n ll Z (fun z => z = a' ∨ z = b') r y c (j + 1) := fun k => ⟨_, hd.drewN k, links_pass hlk hz hz0 hz1⟩
                          have HI2 : Hid _ := hI2
                          clear hI2 hd hlk
                          go_wp2_with (go_quiet (fail))
                          go_roundw
                          case rel => exact ⟨c, j + 1, by omega, rfl, by go_num, HI2.out _⟩
                          case measure => simp [intOf]; omega
                      · have hje : j = ll y := by omega
                        subst hje
                        have hM2 : RndAt w4 wr w4.heap.size n ll Z (fun z => z = a' ∨ z = b') r (y + 1) c := ⟨dd, hd, links_end hlk⟩
                        have HM2 : Hid _ := hM2
                        clear hM2 hd hlk
                        go_wp2
                        go_roundw
                        case rel => exact ⟨c, y + 1, by omega, rfl, by go_num, HM2.out⟩
                        case measure => simp [intOf]; omega
                · have hyn : n = y := by omega
                  subst hyn
                  cases c with
                  | true =>
                    have hR2 : RoundAt w4 wr w4.heap.size n ll Z (fun z => z = a' ∨ z = b') (r + 1) := ⟨dd, hd, hrnd.bf, rnd_next HIN.out hrnd⟩
                    have HR2 : Hid _ := hR2
                    clear hR2 hd hrnd
                    go_wp2
                    go_roundw
                    case rel => exact ⟨r + 1, by omega, by go_num, HR2.out⟩
                    case measure => simp [intOf]; omega
                  | false =>
                    have hFin : RoundAt w4 wr w4.heap.size n ll Z (fun z => z = a' ∨ z = b') n := ⟨dd, hd, hrnd.bf, rnd_last HIN.out hrnd n⟩
                    clear hd hrnd hlty
                    go_wp2_with fail
                    obtain ⟨dd, hd, hbf, hup⟩ := hFin
                    have hld := HLD.out
                    have hsz := hd.below.size
                    have z1 := hld.h1
                    have z2 := hld.h2
                    have z3 := hld.h3
                    have zq := hld.q1
                    have zD := hd.ints.lt
                    have hq := hld.queue.later hd.below (show QB < w4.heap.size by omega)
                    have hk4 : Keeps (fun b => b < w4.heap.size) w4 wr := Keeps.of_below hd.below (fun _ h => h)
                    have hG0 : Plain.Good (Adj n ll Z) n base (fun _ => False) X1 := good_none HF.out (adj_lt HIN.out)
                    have hmx' : base + n ≤ 2147483647 := by omega
                    refine (zzwalk_any w1.heap.size w.heap.size w3.heap.size QB n n l1 ql qc a' lift base ll Z X1 (fun _ => False) qa wr (hld.links.later (hd.below.mono (by omega))) HIN.out HWR.out hn (by omega) hl1 (by omega) (hld.aw.kept hk4 z3 hsz) (by omega) HX1.out hq (by omega) (by omega) (by omega) hbase hbw1 hmx' hG0 haN).mono ?_
                    rintro e w6 ⟨Q1, m1, cap1, aw1, rfl, hz1⟩
                    go_wp2_with fail
                    have hs6 := hz1.below.size
                    have hq2 : QueueOk w6 w1.heap.size (some ⟨Q1, 0, none⟩) cap1 Q1 := .inr ⟨rfl, hz1.pool, hz1.hQ⟩
                    refine (zzwalk_any w1.heap.size w.heap.size w3.heap.size Q1 n n l1 m1 cap1 b' lift base ll Z aw1 _ (some ⟨Q1, 0, none⟩) w6 ((hld.links.later (hd.below.mono (by omega))).later hz1.below) HIN.out HWR.out hn (by omega) hl1 (by omega) hz1.haw (by omega) hz1.fits hq2 hz1.hQA hz1.pool.lt hz1.cap63 hbase hbw1 hmx' hz1.good hbN).mono ?_
                    rintro e w7 ⟨Q2, m2, cap2, aw2, rfl, hz2⟩
                    have hfin := finale hld hd hbf hup hz1 hz2
                    have HFI : Hid _ := hfin
                    clear hfin hz1 hz2 hq2 hq hd hbf hup hld hk4 hG0 hs6 hsz z1 z2 z3 zq zD
                    go_wp2
                    go_loop [31] (fun i => ∃ k : Nat, k ≤ l1 ∧ i = .int .i64 k) (fun i => l1 - (intOf i).toNat)
                    case atStart => exact ⟨0, Nat.zero_le _, by go_num⟩
                    case round =>
                      obtain ⟨k, hk, rfl⟩ := hrel
                      by_cases hlt : k < l1
                      · have hkI : (k : Int) < (l1 : Int) := by omega
                        have hc1 := HFI.out.away.cell k hlt
                        have hc2 := HFI.out.aw.cell k hlt
                        by_cases hkn : k < n
                        · have hknI : (k : Int) < (n : Int) := by omega
                          have hc3 := HFI.out.dist.cell k hkn
                          have hlo := HFI.out.lo k hkn
                          by_cases hpos : 0 ≤ dd k
                          · rw [HFI.out.got k hkn hpos] at hc2
                            have hs1 : -2147483648 ≤ base + dd k := by omega
                            have hs2 : base + dd k ≤ 2147483647 := by omega
                            go_wp2
                            go_round
                            case rel => exact ⟨k + 1, by omega, by go_num⟩
                            case measure => simp [intOf]; omega
                          · rw [HFI.out.unmet k (fun _ => by omega)] at hc2
                            go_wp2
                            go_round
                            case rel => exact ⟨k + 1, by omega, by go_num⟩
                            case measure => simp [intOf]; omega
                        · have hknI : ¬ (k : Int) < (n : Int) := by omega
                          rw [HFI.out.unmet k (fun h => absurd h hkn)] at hc2
                          go_wp2
                          go_round
                          case rel => exact ⟨k + 1, by omega, by go_num⟩
                          case measure => simp [intOf]; omega
                      · go_wp2
                        go_ret
                        exact ⟨rfl, HFI.out.below⟩
            · have hrn : n = r := by omega
              subst hrn
              have hFin := hRA
              clear hRA
              go_wp2_with fail
              obtain ⟨dd, hd, hbf, hup⟩ := hFin
              have hld := HLD.out
              have hsz := hd.below.size
              have z1 := hld.h1
              have z2 := hld.h2
              have z3 := hld.h3
              have zq := hld.q1
              have zD := hd.ints.lt
              have hq := hld.queue.later hd.below (show QB < w4.heap.size by omega)
              have hk4 : Keeps (fun b => b < w4.heap.size) w4 wr := Keeps.of_below hd.below (fun _ h => h)
              have hG0 : Plain.Good (Adj n ll Z) n base (fun _ => False) X1 := good_none HF.out (adj_lt HIN.out)
              have hmx' : base + n ≤ 2147483647 := by omega
              refine (zzwalk_any w1.heap.size w.heap.size w3.heap.size QB n n l1 ql qc a' lift base ll Z X1 (fun _ => False) qa wr (hld.links.later (hd.below.mono (by omega))) HIN.out HWR.out hn (by omega) hl1 (by omega) (hld.aw.kept hk4 z3 hsz) (by omega) HX1.out hq (by omega) (by omega) (by omega) hbase hbw1 hmx' hG0 haN).mono ?_
              rintro e w6 ⟨Q1, m1, cap1, aw1, rfl, hz1⟩
              go_wp2_with fail
              have hs6 := hz1.below.size
              have hq2 : QueueOk w6 w1.heap.size (some ⟨Q1, 0, none⟩) cap1 Q1 := .inr ⟨rfl, hz1.pool, hz1.hQ⟩
              refine (zzwalk_any w1.heap.size w.heap.size w3.heap.size Q1 n n l1 m1 cap1 b' lift base ll Z aw1 _ (some ⟨Q1, 0, none⟩) w6 ((hld.links.later (hd.below.mono (by omega))).later hz1.below) HIN.out HWR.out hn (by omega) hl1 (by omega) hz1.haw (by omega) hz1.fits hq2 hz1.hQA hz1.pool.lt hz1.cap63 hbase hbw1 hmx' hz1.good hbN).mono ?_
              rintro e w7 ⟨Q2, m2, cap2, aw2, rfl, hz2⟩
              have hfin := finale hld hd hbf hup hz1 hz2
              have HFI : Hid _ := hfin
              clear hfin hz1 hz2 hq2 hq hd hbf hup hld hk4 hG0 hs6 hsz z1 z2 z3 zq zD
              go_wp2
              go_loop [31] (fun i => ∃ k : Nat, k ≤ l1 ∧ i = .int .i64 k) (fun i => l1 - (intOf i).toNat)
              case atStart => exact ⟨0, Nat.zero_le _, by go_num⟩
              case round =>
                obtain ⟨k, hk, rfl⟩ := hrel
                by_cases hlt : k < l1
                · have hkI : (k : Int) < (l1 : Int) := by omega
                  have hc1 := HFI.out.away.cell k hlt
                  have hc2 := HFI.out.aw.cell k hlt
                  by_cases hkn : k < n
                  · have hknI : (k : Int) < (n : Int) := by omega
                    have hc3 := HFI.out.dist.cell k hkn
                    have hlo := HFI.out.lo k hkn
                    by_cases hpos : 0 ≤ dd k
                    · rw [HFI.out.got k hkn hpos] at hc2
                      have hs1 : -2147483648 ≤ base + dd k := by omega
                      have hs2 : base + dd k ≤ 2147483647 := by omega
                      go_wp2
                      go_round
                      case rel => exact ⟨k + 1, by omega, by go_num⟩
                      case measure => simp [intOf]; omega
                    · rw [HFI.out.unmet k (fun _ => by omega)] at hc2
                      go_wp2
                      go_round
                      case rel => exact ⟨k + 1, by omega, by go_num⟩
                      case measure => simp [intOf]; omega
                  · have hknI : ¬ (k : Int) < (n : Int) := by omega
                    rw [HFI.out.unmet k (fun h => absurd h hkn)] at hc2
                    go_wp2
                    go_round
                    case rel => exact ⟨k + 1, by omega, by go_num⟩
                    case measure => simp [intOf]; omega
                · go_wp2
                  go_ret
                  exact ⟨rfl, HFI.out.below⟩

end Go.Proofs.Qxb6603240a
