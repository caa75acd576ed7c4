/-
  THE LAW's WALK.
-/
import Derived.Test.Qxb6602710aWatch
import Derived.Test.Qxb6602710aLogOf
import Derived.Deep.RegionHeld3
import Derived.Deep.DrawnRows
namespace Go.Proofs.Qxb6602710a
open Go.RowKit
open Go.Extern.Stop (cell)

theorem watch_wc (h : List UInt8) (hl : h.length = 32) (t : Int) (r : Bool) (w : World) :
    Calls Try.prog 14 #[.agg (hc h).toArray, .int .i64 t, .bool r] w fun e w' => e = .returned (.agg (wc h t r).toArray) ∧ Below w.heap.size w w' :=
  watch_any (hc h) (by rw [hc_length, hl]) (hc_one h) t r w

/-- The numbers of a slice of ints that came in. -/
def IntsAt (w : World) (a : Option Addr) (n : Nat) (T : Nat → Int) : Prop := ∀ i, i < n → ∃ b off, a = some ⟨b, off, none⟩ ∧ b < w.heap.size ∧ w.cell? ⟨b, off + i, none⟩ = some (.int .i64 (T i))
def BoolsAt (w : World) (a : Option Addr) (n : Nat) (R : Nat → Bool) : Prop := ∀ i, i < n → ∃ b off, a = some ⟨b, off, none⟩ ∧ b < w.heap.size ∧ w.cell? ⟨b, off + i, none⟩ = some (.bool (R i))

/-- The hash of row i, read off the log where the row is above genesis. -/
def ownHash (L Hs : Nat → List UInt8) (T : Nat → Int) (i : Nat) : List UInt8 := if 0 < T i then L (T i - 1).toNat else Hs i

theorem cnt_own (L Hs : Nat → List UInt8) (T : Nat → Int) (n : Nat) : cnt L (ownHash L Hs T) T n = 0 := by
  induction n with
  | zero => rfl
  | succ n ih =>
    by_cases h : 0 < T n
    · rw [cnt, ih, if_neg]
      rintro ⟨_, h2⟩
      exact h2 (by simp [ownHash, h])
    · rw [cnt_no h, ih]

/-- Row K is another. -/
theorem cnt_flip (L C C' : Nat → List UInt8) (T : Nat → Int) (K n : Nat) (h0 : ∀ i, i ≠ K → C' i = C i) (hz : ∀ m, cnt L C T m = 0) (hd : 0 < T K → L (T K - 1).toNat ≠ C' K) :
    cnt L C' T n = if K < n ∧ 0 < T K then 1 else 0 := by
  induction n with
  | zero => simp [cnt]
  | succ n ih =>
    have hzn := hz (n + 1)
    rw [cnt, hz n] at hzn
    by_cases hK : n = K
    · subst hK
      rw [cnt, ih]
      by_cases ht : 0 < T n
      · rw [if_neg (fun h => Nat.lt_irrefl _ h.1), if_pos ⟨ht, hd ht⟩, if_pos ⟨Nat.lt_succ_self _, ht⟩]
      · simp [ht]
    · rw [cnt, ih, h0 n hK]
      have hno : ¬ (0 < T n ∧ L (T n - 1).toNat ≠ C n) := by intro h; rw [if_pos h] at hzn; omega
      rw [if_neg hno]
      by_cases h1 : K < n ∧ 0 < T K
      · rw [if_pos h1, if_pos ⟨by omega, h1.2⟩]
      · rw [if_neg h1, if_neg (fun h2 => h1 ⟨by omega, h2.2⟩)]

/-- What stands while the rows are built: the copied log in block G1, the first k rows in block G2. -/
structure Mid (w wr : World) (G1 G2 m n k : Nat) (L O : Nat → List UInt8) (T : Nat → Int) (R : Nat → Bool) : Prop where
  below : Below w.heap.size w wr
  o1 : w.heap.size ≤ G1
  o2 : G1 < G2
  o3 : G2 < wr.heap.size
  log : ∀ i, i < m → wr.rangeAt G1 (i * 32) (hc (L i))
  th : wr.there G2 0 (n * 34)
  rows : ∀ i, i < k → wr.rangeAt G2 (i * 34) (wc (O i) (T i) (R i))

theorem Mid.keep {w wr W : World} {G1 G2 m n k : Nat} {L O : Nat → List UInt8} {T : Nat → Int} {R : Nat → Bool} (h : Mid w wr G1 G2 m n k L O T R) (hb : Below wr.heap.size wr W) : Mid w W G1 G2 m n k L O T R :=
  ⟨h.below.trans (hb.mono h.below.size), h.o1, h.o2, Nat.lt_of_lt_of_le h.o3 hb.size, fun i hi => below_range hb (Nat.lt_trans h.o2 h.o3) (h.log i hi), below_there hb h.o3 h.th, fun i hi => below_range hb h.o3 (h.rows i hi)⟩

theorem Mid.drew {w wr : World} {G1 G2 m n k : Nat} {L O : Nat → List UInt8} {T : Nat → Int} {R : Nat → Bool} (h : Mid w wr G1 G2 m n k L O T R) : Mid w wr.drew G1 G2 m n k L O T R :=
  h.keep (Below.refl _ _).drew

/-- A store into row k. -/
theorem Mid.store {w wr : World} {G1 G2 m n k : Nat} {L O : Nat → List UInt8} {T : Nat → Int} {R : Nat → Bool} (h : Mid w wr G1 G2 m n k L O T R) (hO : ∀ i, i ≤ k → (O i).length = 32) (hk : k < n) :
    Mid w (wr.setCells G2 (k * 34) (wc (O k) (T k) (R k))) G1 G2 m n (k + 1) L O T R :=
  ⟨below_setCells h.below _ (by have := h.o1; have := h.o2; omega) _ _, h.o1, h.o2, Nat.lt_of_lt_of_le h.o3 (size_setCells_le _ _ _ _),
   fun i hi => World.rangeAt_setCells_apart (h.log i hi) _ _ _ (.inl (by have := h.o2; omega)), World.there_setCells h.th _ _ _,
   rows_step (V := fun i => wc (O i) (T i) (R i)) (fun i hi => by rw [wc_length, hO i hi]) h.th hk h.rows⟩

theorem Mid.less {w wr : World} {G1 G2 m n k : Nat} {L O : Nat → List UInt8} {T : Nat → Int} {R : Nat → Bool} (h : Mid w wr G1 G2 m n (k + 1) L O T R) : Mid w wr G1 G2 m n k L O T R :=
  ⟨h.below, h.o1, h.o2, h.o3, h.log, h.th, fun i hi => h.rows i (Nat.lt_succ_of_lt hi)⟩

/-- What the drawn statement 'own[i] = ZZMakeCommitWatch(h, heights[i], reverted[i])' leans on. -/
theorem keep_drew {w W : World} {b2 o2 b3 o3 H G1 G2 m n k x : Nat} {t : Int} {r : Bool} {cs : List Value} {L O : Nat → List UInt8} {T : Nat → Int} {R : Nat → Bool}
    (h : W.cell? ⟨b2, o2, none⟩ = some (.int .i64 t) ∧ W.cell? ⟨b3, o3, none⟩ = some (.bool r) ∧ W.rangeAt H 0 cs ∧ W.there G2 x 34 ∧ H < W.heap.size ∧ Mid w W G1 G2 m n k L O T R) :
    W.drew.cell? ⟨b2, o2, none⟩ = some (.int .i64 t) ∧ W.drew.cell? ⟨b3, o3, none⟩ = some (.bool r) ∧ W.drew.rangeAt H 0 cs ∧ W.drew.there G2 x 34 ∧ H < W.drew.heap.size ∧ Mid w W.drew G1 G2 m n k L O T R :=
  ⟨h.1, h.2.1, h.2.2.1, h.2.2.2.1, h.2.2.2.2.1, h.2.2.2.2.2.drew⟩

theorem keep_call {w W W' : World} {b2 o2 b3 o3 H G1 G2 m n k x : Nat} {t : Int} {r : Bool} {cs : List Value} {L O : Nat → List UInt8} {T : Nat → Int} {R : Nat → Bool}
    (h : W.cell? ⟨b2, o2, none⟩ = some (.int .i64 t) ∧ W.cell? ⟨b3, o3, none⟩ = some (.bool r) ∧ W.rangeAt H 0 cs ∧ W.there G2 x 34 ∧ H < W.heap.size ∧ Mid w W G1 G2 m n k L O T R) (hb : Below W.heap.size W W') :
    W'.cell? ⟨b2, o2, none⟩ = some (.int .i64 t) ∧ W'.cell? ⟨b3, o3, none⟩ = some (.bool r) ∧ W'.rangeAt H 0 cs ∧ W'.there G2 x 34 ∧ H < W'.heap.size ∧ Mid w W' G1 G2 m n k L O T R :=
  ⟨(hb.cell (p := ⟨b2, o2, none⟩) (block_lt_of_cell h.1)).trans h.1, (hb.cell (p := ⟨b3, o3, none⟩) (block_lt_of_cell h.2.1)).trans h.2.1, below_range hb h.2.2.2.2.1 h.2.2.1, below_there hb h.2.2.2.2.2.o3 h.2.2.2.1, Nat.lt_of_lt_of_le h.2.2.2.2.1 hb.size, h.2.2.2.2.2.keep hb⟩

theorem keep_store {w W : World} {b2 o2 b3 o3 H G1 G2 m n k : Nat} {t : Int} {r : Bool} {cs : List Value} {L O : Nat → List UInt8} {T : Nat → Int} {R : Nat → Bool}
    (h : W.cell? ⟨b2, o2, none⟩ = some (.int .i64 t) ∧ W.cell? ⟨b3, o3, none⟩ = some (.bool r) ∧ W.rangeAt H 0 cs ∧ W.there G2 (k * 34) 34 ∧ H < W.heap.size ∧ Mid w W G1 G2 m n k L O T R)
    (n2 : b2 ≠ G2) (n3 : b3 ≠ G2) (nH : H ≠ G2) (hO : ∀ i, i ≤ k → (O i).length = 32) (hk : k < n) :
    (W.setCells G2 (k * 34) (wc (O k) (T k) (R k))).cell? ⟨b2, o2, none⟩ = some (.int .i64 t) ∧ (W.setCells G2 (k * 34) (wc (O k) (T k) (R k))).cell? ⟨b3, o3, none⟩ = some (.bool r) ∧ (W.setCells G2 (k * 34) (wc (O k) (T k) (R k))).rangeAt H 0 cs ∧
      (W.setCells G2 (k * 34) (wc (O k) (T k) (R k))).there G2 (k * 34) 34 ∧ H < (W.setCells G2 (k * 34) (wc (O k) (T k) (R k))).heap.size ∧ Mid w (W.setCells G2 (k * 34) (wc (O k) (T k) (R k))) G1 G2 m n k L O T R :=
  ⟨(World.cell?_setCells_out G2 _ _ W ⟨b2, o2, none⟩ (fun hb _ => absurd hb n2)).trans h.1, (World.cell?_setCells_out G2 _ _ W ⟨b3, o3, none⟩ (fun hb _ => absurd hb n3)).trans h.2.1, World.rangeAt_setCells_apart h.2.2.1 _ _ _ (.inl nH),
   World.there_setCells h.2.2.2.1 _ _ _, Nat.lt_of_lt_of_le h.2.2.2.2.1 (size_setCells_le _ _ _ _), (h.2.2.2.2.2.store hO hk).less⟩

/-- A whole row, stored in a region that draws. -/
theorem run_store_wc (b o : Nat) (h : List UInt8) (t : Int) (r : Bool) (w : World) (hl : h.length = 32) (ht : w.there b o 34) :
    (storeCells ⟨b, o, none⟩ (wc h t r)).run Try.prog w = .ok () (w.setCells b o (wc h t r)) := by
  have hl2 : (wc h t r).length = 34 := by rw [wc_length, hl]
  have := run_storeCells_cells (P := Try.prog) b o (wc h t r) 0 w (fun j hj => by simpa using (ht j (by omega)).1) (fun j hj => by simpa using (ht j (by omega)).2) (wc_one _ _ _)
  simpa using this
attribute [local go_sem] run_store_wc

theorem flip_fin : ∀ n : Fin 256, bits BinOp.xor IntKind.u8 (n.val : Int) 1 = ((UInt8.ofNat n.val ^^^ 1).toNat : Int) := by decide +kernel
theorem flip_bits (x : UInt8) : bits BinOp.xor IntKind.u8 (x.toNat : Int) 1 = ((x ^^^ 1).toNat : Int) := by
  have h := flip_fin ⟨x.toNat, x.toNat_lt⟩
  simpa using h
theorem flip_ne_fin : ∀ n : Fin 256, UInt8.ofNat n.val ≠ UInt8.ofNat n.val ^^^ 1 := by decide +kernel
theorem flip_ne (x : UInt8) (r : List UInt8) : x :: r ≠ (x ^^^ 1) :: r := by
  intro h
  have h1 := (List.cons.inj h).1
  have h2 := flip_ne_fin ⟨x.toNat, x.toNat_lt⟩
  simp at h2
  exact h2 h1

/-- 'flipped[0] ^= 1'. -/
theorem flip_range {W : World} {F : Nat} {x : UInt8} {r : List UInt8} (hr : W.rangeAt F 0 (hc (x :: r))) :
    (W.setCell ⟨F, 0, none⟩ (.int .u8 (bits BinOp.xor IntKind.u8 (x.toNat : Int) 1))).rangeAt F 0 (hc ((x ^^^ 1) :: r)) := by
  intro j v hv
  cases j with
  | zero =>
    have h0 := hr 0 (cell x) rfl
    have : v = .int .u8 (bits BinOp.xor IntKind.u8 (x.toNat : Int) 1) := by
      rw [flip_bits]
      simp [hc, cell] at hv
      exact hv.symm
    subst this
    exact World.cell?_setCell_same _ _ _ h0
  | succ j =>
    have h1 : W.cell? ⟨F, 0 + (j + 1), none⟩ = some v := hr (j + 1) v (by simpa [hc] using hv)
    rw [World.cell?_setCell_other _ _ _ _ (by intro h; simp at h)]
    exact h1

theorem Mid.noRows {w wr : World} {G1 G2 m n k : Nat} {L O : Nat → List UInt8} {T : Nat → Int} {R : Nat → Bool} (h : Mid w wr G1 G2 m n k L O T R) : Mid w wr G1 G2 m n 0 L O T R :=
  ⟨h.below, h.o1, h.o2, h.o3, h.log, h.th, fun _ hi => absurd hi (Nat.not_lt_zero _)⟩

/-- One row is stored anew. -/
def flipped (O : Nat → List UInt8) (K : Nat) (fl : List UInt8) : Nat → List UInt8 := fun i => if i = K then fl else O i

theorem Mid.flip {w wr : World} {G1 G2 m n k K : Nat} {L O : Nat → List UInt8} {T : Nat → Int} {R : Nat → Bool} {fl : List UInt8} (h : Mid w wr G1 G2 m n k L O T R) (hO : ∀ i, i < k → (O i).length = 32) (hf : fl.length = 32) (hK : K < n) :
    Mid w (wr.setCells G2 (K * 34) (wc fl (T K) (R K))) G1 G2 m n k L (flipped O K fl) T R := by
  have hkn : (K + 1) * 34 ≤ n * 34 := Nat.mul_le_mul_right _ hK
  have hlf : (wc fl (T K) (R K)).length = 34 := by rw [wc_length, hf]
  refine ⟨below_setCells h.below _ (by have := h.o1; have := h.o2; omega) _ _, h.o1, h.o2, Nat.lt_of_lt_of_le h.o3 (size_setCells_le _ _ _ _),
   fun i hi => World.rangeAt_setCells_apart (h.log i hi) _ _ _ (.inl (by have := h.o2; omega)), World.there_setCells h.th _ _ _, fun i hi => ?_⟩
  unfold flipped
  by_cases e : i = K
  · subst e
    rw [if_pos rfl]
    exact World.rangeAt_setCells_same _ _ _ _ (by rw [hlf]; exact there_sub h.th (by omega) (by omega))
  · rw [if_neg e]
    exact World.rangeAt_setCells_apart (h.rows i hi) _ _ _ (by rw [hlf, wc_length, hO i hi]; omega)

theorem keep_store2 {w W : World} {b2 o2 b3 o3 H G1 G2 m n K : Nat} {t : Int} {r : Bool} {cs : List Value} {L O : Nat → List UInt8} {T : Nat → Int} {R : Nat → Bool} {fl : List UInt8}
    (h : W.cell? ⟨b2, o2, none⟩ = some (.int .i64 t) ∧ W.cell? ⟨b3, o3, none⟩ = some (.bool r) ∧ W.rangeAt H 0 cs ∧ W.there G2 (K * 34) 34 ∧ H < W.heap.size ∧ Mid w W G1 G2 m n 0 L O T R)
    (n2 : b2 ≠ G2) (n3 : b3 ≠ G2) (nH : H ≠ G2) :
    (W.setCells G2 (K * 34) (wc fl (T K) (R K))).cell? ⟨b2, o2, none⟩ = some (.int .i64 t) ∧ (W.setCells G2 (K * 34) (wc fl (T K) (R K))).cell? ⟨b3, o3, none⟩ = some (.bool r) ∧ (W.setCells G2 (K * 34) (wc fl (T K) (R K))).rangeAt H 0 cs ∧
      (W.setCells G2 (K * 34) (wc fl (T K) (R K))).there G2 (K * 34) 34 ∧ H < (W.setCells G2 (K * 34) (wc fl (T K) (R K))).heap.size ∧ Mid w (W.setCells G2 (K * 34) (wc fl (T K) (R K))) G1 G2 m n 0 L O T R :=
  ⟨(World.cell?_setCells_out G2 _ _ W ⟨b2, o2, none⟩ (fun hb _ => absurd hb n2)).trans h.1, (World.cell?_setCells_out G2 _ _ W ⟨b3, o3, none⟩ (fun hb _ => absurd hb n3)).trans h.2.1, World.rangeAt_setCells_apart h.2.2.1 _ _ _ (.inl nH),
   World.there_setCells h.2.2.2.1 _ _ _, Nat.lt_of_lt_of_le h.2.2.2.2.1 (size_setCells_le _ _ _ _),
   ⟨below_setCells h.2.2.2.2.2.below _ (by have := h.2.2.2.2.2.o1; have := h.2.2.2.2.2.o2; omega) _ _, h.2.2.2.2.2.o1, h.2.2.2.2.2.o2, Nat.lt_of_lt_of_le h.2.2.2.2.2.o3 (size_setCells_le _ _ _ _),
    fun i hi => World.rangeAt_setCells_apart (h.2.2.2.2.2.log i hi) _ _ _ (.inl (by have := h.2.2.2.2.2.o2; omega)), World.there_setCells h.2.2.2.2.2.th _ _ _, fun i hi => absurd hi (Nat.not_lt_zero _)⟩⟩

theorem info33 : (Try.prog.info? 33).map (fun i => (i.size, i.bytes)) = some (34, 48) := by kernel_rfl

set_option maxRecDepth 100000 in
set_option maxHeartbeats 4000000 in
theorem law_main (a0 a1 a2 a3 : Option Addr) (m n c0 c1 c2 c3 K : Nat) (L Hs : Nat → List UInt8) (T : Nat → Int) (R : Nat → Bool) (w : World)
    (hm : m ≤ 4096) (hn : n ≤ 4096) (hK : K < n) (hA0 : LogAt w a0 m L) (hA1 : LogAt w a1 n Hs) (hA2 : IntsAt w a2 n T) (hA3 : BoolsAt w a3 n R) :
    Calls Try.prog 7 #[.slice a0 m c0, .slice a1 n c1, .slice a2 n c2, .slice a3 n c3, .int .i64 K] w fun e w' => e = .returned (.bool true) ∧ Below w.heap.size w w' := by
  have q0 : ¬ (4096 : Int) < (m : Int) := by omega
  have q1 : ¬ (4096 : Int) < (n : Int) := by omega
  have q2 : ((n : Int) != (n : Int)) = false := by simp
  have q3 : ¬ (K : Int) < 0 := by omega
  have q4 : ¬ (n : Int) ≤ (K : Int) := by omega
  go_enter Try.func7, Try.ntmps7
  go_wp2_with fail
  refine (bytes_any a0 a1 a2 a3 m n n n c0 c1 c2 c3 K _ (by unfold maxLen; omega) (by unfold maxLen; omega) (by unfold maxLen; omega) (by unfold maxLen; omega)).mono ?_
  rintro e w' ⟨⟨r, rfl⟩, rfl⟩
  cases r
  · go_wp2
    go_ret
    exact ⟨rfl, Below.refl _ _⟩
  · go_wp2_with fail
    go_loop [12] (fun i => ∃ k : Nat, k ≤ n ∧ i = .int .i64 k ∧ ∀ j, j < k → T j ≤ m) (fun i => n - (intOf i).toNat)
    case atStart => exact ⟨0, Nat.zero_le _, rfl, fun j hj => absurd hj (Nat.not_lt_zero _)⟩
    case round =>
      obtain ⟨k, hk, rfl, hT⟩ := hrel
      by_cases hlt : k < n
      · obtain ⟨b, off, rfl, hbl, hc2⟩ := hA2 k hlt
        by_cases hgt : (m : Int) < T k
        · clear hT hA0 hA1 hA2 hA3
          go_wp2
          go_ret
          exact ⟨rfl, Below.refl _ _⟩
        · have HT : Hid (∀ j, j < k → T j ≤ m) := hT
          clear hT hA0 hA1 hA2 hA3
          go_wp2
          go_round
          case rel => exact ⟨k + 1, by omega, by go_num, fun j hj => by
            by_cases e : j = k
            · subst e; omega
            · exact HT.out j (by omega)⟩
          case measure => simp [intOf]; omega
      · have hkn : k = n := by omega
        subst hkn
        have HT : Hid (∀ j, j < k → T j ≤ m) := hT
        clear hT hlt
        go_wp2_with fail
        refine (logOf_any a0 m c0 L _ hm hA0).mono ?_
        rintro e w1 ⟨rfl, hb1, hs1, hlog1⟩
        generalize hz : ((List.replicate 32 (Value.int .u8 0)) ++ [Value.int .i64 0, Value.bool false]).toArray = Z
        have Hz : Hid ((Try.prog.info? 33).map (·.zero) = some (some (.agg Z))) := by rw [← hz]; exact zero33
        clear hz
        have Hlog : Hid (∀ i, i < m → w1.rangeAt w'.heap.size (i * 32) (hc (L i))) := hlog1
        clear hlog1
        go_wp2_with (refine wpList_make_new rfl 27 33 _ rfl Try.underlying27 (.agg Z) Hz.out 34 48 info33 k rfl (by omega) (by omega) ?_; intro w2 hw2)
        have hMid : Mid w' w2 w'.heap.size w1.heap.size m k 0 L (ownHash L Hs T) T R :=
          ⟨hb1.trans (hw2.below.mono hb1.size), Nat.le_refl _, hs1, by rw [hw2.size]; omega, fun i hi => below_range hw2.below hs1 (Hlog.out i hi), hw2.there, fun i hi => absurd hi (Nat.not_lt_zero _)⟩
        generalize w1.heap.size = G2 at *
        clear Hz hb1 hs1 Hlog hw2
        have hOl : Hid (∀ i, i < k → (ownHash L Hs T i).length = 32) := fun i hi => by
          unfold ownHash
          by_cases h : 0 < T i
          · rw [if_pos h]
            have := HT.out i hi
            obtain ⟨_, _, _, _, _, h2⟩ := hA0 (T i - 1).toNat (by omega)
            exact h2
          · rw [if_neg h]
            obtain ⟨_, _, _, _, _, h2⟩ := hA1 i hi
            exact h2
        go_loopw [15] (fun i wr => ∃ j : Nat, j ≤ k ∧ i = .int .i64 j ∧ Mid w' wr w'.heap.size G2 m k j L (ownHash L Hs T) T R) (fun i _ => k - (intOf i).toNat)
        case atStart => exact ⟨0, Nat.zero_le _, rfl, hMid⟩
        case round =>
          obtain ⟨j, hj, rfl, hM⟩ := hrel
          clear hMid
          by_cases hlt : j < k
          · obtain ⟨b1, o1, rfl, hb1, hr1, hl1⟩ := hA1 j hlt
            obtain ⟨b2, o2, rfl, hb2, hc2⟩ := hA2 j hlt
            obtain ⟨b3, o3, rfl, hb3, hc3⟩ := hA3 j hlt
            have hr1' := below_range hM.below hb1 hr1
            have hc2' := (hM.below.cell (p := ⟨b2, o2 + j, none⟩) hb2).trans hc2
            have hc3' := (hM.below.cell (p := ⟨b3, o3 + j, none⟩) hb3).trans hc3
            have hi1 : Hid ((Try.prog.info? 29).map (·.size) = some (hc (Hs j)).length) := by rw [hc_length, hl1]; exact Try.size29
            have hsz1 : Hid ((hc (Hs j)).length = 32) := by rw [hc_length, hl1]; rfl
            generalize hz : (List.replicate 32 (Value.int .u8 0)).toArray = Z2
            have hzs : Z2.size = 32 := by rw [← hz]; rfl
            have Hz2 : Hid ((Try.prog.info? 29).map (·.zero) = some (some (.agg Z2))) := by rw [← hz]; exact zero29
            have hb2' : b2 < wr.heap.size := Nat.lt_of_lt_of_le hb2 hM.below.size
            have hb3' : b3 < wr.heap.size := Nat.lt_of_lt_of_le hb3 hM.below.size
            clear hz hr1 hc2 hc3
            by_cases hpos : 0 < T j
            · have hO : Hid (ownHash L Hs T j = L (T j - 1).toNat) := if_pos hpos
              have hTj := HT.out j hlt
              obtain ⟨jj, hjj⟩ : ∃ jj : Nat, T j - 1 = (jj : Int) := ⟨(T j - 1).toNat, by omega⟩
              have hjm : jj < m := by omega
              have hjmI : (jj : Int) < (m : Int) := by omega
              have hO2 : Hid (ownHash L Hs T j = L jj) := by
                have h := hO.out
                rw [hjj, Int.toNat_natCast] at h
                exact h
              obtain ⟨b0, o0, rfl, hb0, hr0, hl0⟩ := hA0 jj hjm
              have hr0' := below_range hM.below hb0 hr0
              have hb0' : b0 < wr.heap.size := Nat.lt_of_lt_of_le hb0 hM.below.size
              have hi0 : Hid ((Try.prog.info? 29).map (·.size) = some (hc (L jj)).length) := by rw [hc_length, hl0]; exact Try.size29
              have hsz0 : Hid ((hc (L jj)).length = 32) := by rw [hc_length, hl0]; rfl
              clear hr0 hO
              go_wp2_with (first | (refine wpList_load_mid rfl 29 _ rfl b1 (o1 + j * 32) rfl (hc (Hs j)) _ hr1' Try.underlying29 rfl hi1.out ?_) | (refine wpList_alloc_new rfl 29 rfl (.agg Z2) 32 Hz2.out hzs ?_; intro wa hwa) | (refine wpList_store_letter rfl 29 _ _ rfl wr.heap.size 0 (hc (Hs j)) rfl rfl 32 hsz1.out hwa.there Try.size29 (hc_one _) ?_; intro wx hwx; have hbx := hwa.below.trans hwx.below; have hc2x := (hbx.cell (p := ⟨b2, o2 + j, none⟩) hb2').trans hc2'; have hrx := below_range hbx hb0' hr0') | (refine wpList_load_mid rfl 29 _ rfl b0 (o0 + jj * 32) rfl (hc (L jj)) _ hrx Try.underlying29 rfl hi0.out ?_) | (refine wpList_store_letter rfl 29 _ _ rfl wr.heap.size 0 (hc (L jj)) rfl rfl 32 hsz0.out (hwx.there _ _ _ hwa.there) Try.size29 (hc_one _) ?_; intro wb hwb; have hbb := hbx.trans hwb.below; have hc2b := (hbb.cell (p := ⟨b2, o2 + j, none⟩) hb2').trans hc2'; have hc3b := (hbb.cell (p := ⟨b3, o3 + j, none⟩) hb3').trans hc3'))
              have hrO : wb.rangeAt wr.heap.size 0 (hc (ownHash L Hs T j)) := by rw [hO2.out]; exact hwb.range
              have hMb := hM.keep hbb
              have hHs : wr.heap.size < wb.heap.size := by have := hwa.size; have := hwx.below.size; have := hwb.below.size; omega
              have hthb : wb.there G2 (j * 34) 34 := there_sub hMb.th (by omega) (by omega)
              have hlO := hOl.out j hlt
              have hiO : (Try.prog.info? 29).map (·.size) = some (hc (ownHash L Hs T j)).length := by rw [hc_length, hlO]; exact Try.size29
              have hiW : (Try.prog.info? 33).map (·.size) = some (wc (ownHash L Hs T j) (T j) (R j)).length := by rw [wc_length, hlO]; exact Try.size33
              have hlW : (wc (ownHash L Hs T j) (T j) (R j)).length = 34 := by rw [wc_length, hlO]
              have honW := wc_one (ownHash L Hs T j) (T j) (R j)
              have hu := Try.underlying29
              have hu33 := Try.underlying33
              have n2 : b2 ≠ G2 := by have := hMb.o1; have := hMb.o2; omega
              have n3 : b3 ≠ G2 := by have := hMb.o1; have := hMb.o2; omega
              have nH : wr.heap.size ≠ G2 := by have := hM.o3; omega
              have HOl : Hid (∀ i, i ≤ j → (ownHash L Hs T i).length = 32) := fun i hi => hOl.out i (by omega)
              clear hO2 hwb hwa hwx hbx hc2x hrx hr0' hi0 hsz0 hl0 hTj hbb hr1' hM hc2' hc3' hi1 hsz1 hzs Hz2 hA0 hA1 hA2 hA3 HT hOl hl1
              generalize wr.heap.size = H at *
              go_region_held3 (fun W => W.cell? ⟨b2, o2 + j, none⟩ = some (.int .i64 (T j)) ∧ W.cell? ⟨b3, o3 + j, none⟩ = some (.bool (R j)) ∧ W.rangeAt H 0 (hc (ownHash L Hs T j)) ∧ W.there G2 (j * 34) 34 ∧ H < W.heap.size ∧ Mid w' W w'.heap.size G2 m k j L (ownHash L Hs T) T R) (first | exact keep_drew ⟨hc2b, hc3b, hrO, hthb, hHs, hMb⟩ | exact keep_call (by assumption) hbc | exact keep_store (by assumption) n2 n3 nH HOl.out hlt) ((go_at_call 14; refine (watch_wc _ hlO _ _ _).mono ?_; rintro e wk ⟨rfl, hbc⟩; have hthk : wk.there G2 (j * 34) 34 := below_there hbc hMb.o3 hthb))
              go_wp2
              go_roundw
              case rel => exact ⟨j + 1, by omega, by go_num, (hMb.drew.keep hbc).store HOl.out hlt⟩
              case measure => simp [intOf]; omega
            · have hO : Hid (ownHash L Hs T j = Hs j) := if_neg hpos
              go_wp2_with (first | (refine wpList_load_mid rfl 29 _ rfl b1 (o1 + j * 32) rfl (hc (Hs j)) _ hr1' Try.underlying29 rfl hi1.out ?_) | (refine wpList_alloc_new rfl 29 rfl (.agg Z2) 32 Hz2.out hzs ?_; intro wa hwa) | (refine wpList_store_letter rfl 29 _ _ rfl wr.heap.size 0 (hc (Hs j)) rfl rfl 32 hsz1.out hwa.there Try.size29 (hc_one _) ?_; intro wb hwb; have hbb := hwa.below.trans hwb.below; have hc2b := (hbb.cell (p := ⟨b2, o2 + j, none⟩) hb2').trans hc2'; have hc3b := (hbb.cell (p := ⟨b3, o3 + j, none⟩) hb3').trans hc3'))
              have hrO : wb.rangeAt wr.heap.size 0 (hc (ownHash L Hs T j)) := by rw [hO.out]; exact hwb.range
              have hMb := hM.keep hbb
              have hHs : wr.heap.size < wb.heap.size := by have := hwa.size; have := hwb.below.size; omega
              have hthb : wb.there G2 (j * 34) 34 := there_sub hMb.th (by omega) (by omega)
              have hlO := hOl.out j hlt
              have hiO : (Try.prog.info? 29).map (·.size) = some (hc (ownHash L Hs T j)).length := by rw [hc_length, hlO]; exact Try.size29
              have hiW : (Try.prog.info? 33).map (·.size) = some (wc (ownHash L Hs T j) (T j) (R j)).length := by rw [wc_length, hlO]; exact Try.size33
              have hlW : (wc (ownHash L Hs T j) (T j) (R j)).length = 34 := by rw [wc_length, hlO]
              have honW := wc_one (ownHash L Hs T j) (T j) (R j)
              have hu := Try.underlying29
              have hu33 := Try.underlying33
              have n2 : b2 ≠ G2 := by have := hMb.o1; have := hMb.o2; omega
              have n3 : b3 ≠ G2 := by have := hMb.o1; have := hMb.o2; omega
              have nH : wr.heap.size ≠ G2 := by have := hM.o3; omega
              have HOl : Hid (∀ i, i ≤ j → (ownHash L Hs T i).length = 32) := fun i hi => hOl.out i (by omega)
              clear hO hwb hwa hbb hr1' hM hc2' hc3' hi1 hsz1 hzs Hz2 hA0 hA1 hA2 hA3 HT hOl hl1
              generalize wr.heap.size = H at *
              go_region_held3 (fun W => W.cell? ⟨b2, o2 + j, none⟩ = some (.int .i64 (T j)) ∧ W.cell? ⟨b3, o3 + j, none⟩ = some (.bool (R j)) ∧ W.rangeAt H 0 (hc (ownHash L Hs T j)) ∧ W.there G2 (j * 34) 34 ∧ H < W.heap.size ∧ Mid w' W w'.heap.size G2 m k j L (ownHash L Hs T) T R) (first | exact keep_drew ⟨hc2b, hc3b, hrO, hthb, hHs, hMb⟩ | exact keep_call (by assumption) hbc | exact keep_store (by assumption) n2 n3 nH HOl.out hlt) ((go_at_call 14; refine (watch_wc _ hlO _ _ _).mono ?_; rintro e wk ⟨rfl, hbc⟩; have hthk : wk.there G2 (j * 34) 34 := below_there hbc hMb.o3 hthb))
              go_wp2
              go_roundw
              case rel => exact ⟨j + 1, by omega, by go_num, (hMb.drew.keep hbc).store HOl.out hlt⟩
              case measure => simp [intOf]; omega
          · have hjk : k = j := by omega
            subst hjk
            have hL32 : ∀ i, i < m → (L i).length = 32 := fun i hi => by obtain ⟨_, _, _, _, _, h⟩ := hA0 i hi; exact h
            have hcf := fun W (hMW : Mid w' W w'.heap.size G2 m k k L (ownHash L Hs T) T R) => (zzconf_any w'.heap.size G2 m k L (ownHash L Hs T) T R W hm hn hL32 hOl.out HT.out hMW.log hMW.rows (Nat.lt_trans hMW.o2 hMW.o3) hMW.o3)
            have Hcf : Hid _ := hcf
            clear hcf hlt
            go_wp2_with fail
            refine (Hcf.out wr hM).mono ?_
            rintro e w5 ⟨he, hb5⟩
            rw [cnt_own] at he
            subst he
            have hM5 := hM.keep hb5
            clear hM hb5
            obtain ⟨b1, o1, rfl, hb1, hr1, hl1⟩ := hA1 K hK
            obtain ⟨b2, o2, rfl, hb2, hc2⟩ := hA2 K hK
            obtain ⟨b3, o3, rfl, hb3, hc3⟩ := hA3 K hK
            have hr1' := below_range hM5.below hb1 hr1
            have hc2' := (hM5.below.cell (p := ⟨b2, o2 + K, none⟩) hb2).trans hc2
            have hc3' := (hM5.below.cell (p := ⟨b3, o3 + K, none⟩) hb3).trans hc3
            have hi1 : Hid ((Try.prog.info? 29).map (·.size) = some (hc (Hs K)).length) := by rw [hc_length, hl1]; exact Try.size29
            have hsz1 : Hid ((hc (Hs K)).length = 32) := by rw [hc_length, hl1]; rfl
            generalize hz : (List.replicate 32 (Value.int .u8 0)).toArray = Z2
            have hzs : Z2.size = 32 := by rw [← hz]; rfl
            have Hz2 : Hid ((Try.prog.info? 29).map (·.zero) = some (some (.agg Z2))) := by rw [← hz]; exact zero29
            have hb2' : b2 < w5.heap.size := Nat.lt_of_lt_of_le hb2 hM5.below.size
            have hb3' : b3 < w5.heap.size := Nat.lt_of_lt_of_le hb3 hM5.below.size
            clear hz hr1 hc2 hc3
            by_cases hpos : 0 < T K
            · have hTj := HT.out K hK
              obtain ⟨jj, hjj0⟩ : ∃ jj : Nat, T K - 1 = (jj : Int) := ⟨(T K - 1).toNat, by omega⟩
              have hjm : jj < m := by omega
              have hjmI : (jj : Int) < (m : Int) := by omega
              obtain ⟨b0, o0, rfl, hb0, hr0, hl0⟩ := hA0 jj hjm
              have hr0' := below_range hM5.below hb0 hr0
              have hb0' : b0 < w5.heap.size := Nat.lt_of_lt_of_le hb0 hM5.below.size
              have hi0 : Hid ((Try.prog.info? 29).map (·.size) = some (hc (L jj)).length) := by rw [hc_length, hl0]; exact Try.size29
              have hsz0 : Hid ((hc (L jj)).length = 32) := by rw [hc_length, hl0]; rfl
              clear hr0
              obtain ⟨x0, r0, hx0'⟩ : ∃ x r, L jj = x :: r := by
                cases h : L jj with
                | nil => rw [h] at hl0; simp at hl0
                | cons x r => exact ⟨x, r, rfl⟩
              have hx0 : Hid (L jj = x0 :: r0) := hx0'
              clear hx0'
              have hjj : Hid (T K - 1 = (jj : Int)) := hjj0
              go_wp2_with (first | (refine wpList_load_mid rfl 29 _ rfl b1 (o1 + K * 32) rfl (hc (Hs K)) _ hr1' Try.underlying29 rfl hi1.out ?_) | (refine wpList_alloc_new rfl 29 rfl (.agg Z2) 32 Hz2.out hzs ?_; intro wa hwa) | (refine wpList_store_letter rfl 29 _ _ rfl w5.heap.size 0 (hc (Hs K)) rfl rfl 32 hsz1.out hwa.there Try.size29 (hc_one _) ?_; intro wx hwx; have hbx := hwa.below.trans hwx.below; have hc2x := (hbx.cell (p := ⟨b2, o2 + K, none⟩) hb2').trans hc2'; have hrx := below_range hbx hb0' hr0') | (refine wpList_load_mid rfl 29 _ rfl b0 (o0 + jj * 32) rfl (hc (L jj)) _ hrx Try.underlying29 rfl hi0.out ?_) | (refine wpList_store_letter rfl 29 _ _ rfl w5.heap.size 0 (hc (L jj)) rfl rfl 32 hsz0.out (hwx.there _ _ _ hwa.there) Try.size29 (hc_one _) ?_; intro wb hwb; have hbb := hbx.trans hwb.below; have hc2b := (hbb.cell (p := ⟨b2, o2 + K, none⟩) hb2').trans hc2'; have hc3b := (hbb.cell (p := ⟨b3, o3 + K, none⟩) hb3').trans hc3'; have hx := hwb.range 0 (cell x0) (by rw [hx0.out]; rfl); have hfx := (hwb.there _ _ _ (hwx.there _ _ _ hwa.there) 0 (by omega)).2; simp only [Nat.add_zero, cell] at hx hfx))
              have hrX : wb.rangeAt w5.heap.size 0 (hc (x0 :: r0)) := by rw [← hx0.out]; exact hwb.range
              have hrF := flip_range hrX
              have hbF : Below w5.heap.size w5 (wb.setCell ⟨w5.heap.size, 0, none⟩ (.int .u8 (bits BinOp.xor IntKind.u8 (x0.toNat : Int) 1))) := hbb.setCell (p := ⟨w5.heap.size, 0, none⟩) (Nat.le_refl _) _
              have hHF : w5.heap.size < (wb.setCell ⟨w5.heap.size, 0, none⟩ (.int .u8 (bits BinOp.xor IntKind.u8 (x0.toNat : Int) 1))).heap.size := by
                have h1 := ((Below.refl 0 wb).setCell (p := ⟨w5.heap.size, 0, none⟩) (Nat.zero_le _) (.int .u8 (bits BinOp.xor IntKind.u8 (x0.toNat : Int) 1))).size
                have := hwa.size; have := hwb.below.size; have := hwx.below.size; omega
              generalize wb.setCell ⟨w5.heap.size, 0, none⟩ (.int .u8 (bits BinOp.xor IntKind.u8 (x0.toNat : Int) 1)) = WF at *
              have hMF := hM5.keep hbF
              have hM0 := hMF.noRows
              have hc2F := (hbF.cell (p := ⟨b2, o2 + K, none⟩) hb2').trans hc2'
              have hc3F := (hbF.cell (p := ⟨b3, o3 + K, none⟩) hb3').trans hc3'
              have hthF : WF.there G2 (K * 34) 34 := there_sub hMF.th (by omega) (by omega)
              have hlF : ((x0 ^^^ 1) :: r0).length = 32 := by have h := hl0; rw [hx0.out] at h; simpa using h
              have HflN : Hid (x0 :: r0 ≠ (x0 ^^^ 1) :: r0) := flip_ne x0 r0
              generalize hfl : (x0 ^^^ 1) :: r0 = fl at *
              have hiF : (Try.prog.info? 29).map (·.size) = some (hc fl).length := by rw [hc_length, hlF]; exact Try.size29
              have hiW : (Try.prog.info? 33).map (·.size) = some (wc fl (T K) (R K)).length := by rw [wc_length, hlF]; exact Try.size33
              have hlW : (wc fl (T K) (R K)).length = 34 := by rw [wc_length, hlF]
              have honW := wc_one fl (T K) (R K)
              have hu33 := Try.underlying33
              have hu := Try.underlying29
              have n2 : b2 ≠ G2 := by have := hMF.o1; have := hMF.o2; omega
              have n3 : b3 ≠ G2 := by have := hMF.o1; have := hMF.o2; omega
              have nH : w5.heap.size ≠ G2 := by have := hM5.o3; omega
              clear hfl hrX hwb hwa hbb hr1' hc2' hc3' hi1 hsz1 hzs Hz2 hA0 hA1 hA2 hA3 hl1 hc2b hc3b hx hfx hM5 hbF hwx hbx hc2x hrx hr0' hi0 hsz0 hl0
              generalize w5.heap.size = F at *
              go_region_held3 (fun W => W.cell? ⟨b2, o2 + K, none⟩ = some (.int .i64 (T K)) ∧ W.cell? ⟨b3, o3 + K, none⟩ = some (.bool (R K)) ∧ W.rangeAt F 0 (hc fl) ∧ W.there G2 (K * 34) 34 ∧ F < W.heap.size ∧ Mid w' W w'.heap.size G2 m k 0 L (ownHash L Hs T) T R) (first | exact keep_drew ⟨hc2F, hc3F, hrF, hthF, hHF, hM0⟩ | exact keep_call (by assumption) hbc | exact keep_store2 (by assumption) n2 n3 nH) ((go_at_call 14; refine (watch_wc _ hlF _ _ _).mono ?_; rintro e wk ⟨rfl, hbc⟩; have hthk : wk.there G2 (K * 34) 34 := below_there hbc hMF.o3 hthF))
              have hM6 := (hMF.drew.keep hbc).flip (K := K) (fl := fl) hOl.out hlF hK
              have hcn := cnt_flip L (ownHash L Hs T) (flipped (ownHash L Hs T) K fl) T K k (fun i hi => if_neg hi) (cnt_own L Hs T) (fun _ => by rw [hjj.out, Int.toNat_natCast, hx0.out]; unfold flipped; rw [if_pos rfl]; exact HflN.out)
              have hlen' : ∀ i, i < k → (flipped (ownHash L Hs T) K fl i).length = 32 := fun i hi => by
                unfold flipped
                by_cases e : i = K
                · rw [if_pos e]; exact hlF
                · rw [if_neg e]; exact hOl.out i hi
              have hcf2 := fun (_ : True) => zzconf_any w'.heap.size G2 m k L (flipped (ownHash L Hs T) K fl) T R _ hm hn hL32 hlen' HT.out hM6.log hM6.rows (Nat.lt_trans hM6.o2 hM6.o3) hM6.o3
              rw [if_pos ⟨hK, by omega⟩] at hcn
              have Hcf2 : Hid _ := hcf2
              have Hcn : Hid (cnt L (flipped (ownHash L Hs T) K fl) T k = 1) := hcn
              have Hb6 : Hid (Below w'.heap.size w' (wk.setCells G2 (K * 34) (wc fl (T K) (R K)))) := hM6.below
              clear hcf2 hcn hM6 hlen' hMF hM0 hbc hthk hHF hc2F hc3F hthF hiF hu hrF hiW hlW honW hu33
              go_wp2_with fail
              refine (Hcf2.out trivial).mono ?_
              rintro e w7 ⟨he, hb7⟩
              rw [Hcn.out] at he
              subst he
              go_wp2
              go_ret
              exact ⟨rfl, Hb6.out.trans (hb7.mono (Hb6.out.size))⟩
            · obtain ⟨x0, r0, hx0'⟩ : ∃ x r, Hs K = x :: r := by
                cases h : Hs K with
                | nil => rw [h] at hl1; simp at hl1
                | cons x r => exact ⟨x, r, rfl⟩
              have hx0 : Hid (Hs K = x0 :: r0) := hx0'
              clear hx0'
              go_wp2_with (first | (refine wpList_load_mid rfl 29 _ rfl b1 (o1 + K * 32) rfl (hc (Hs K)) _ hr1' Try.underlying29 rfl hi1.out ?_) | (refine wpList_alloc_new rfl 29 rfl (.agg Z2) 32 Hz2.out hzs ?_; intro wa hwa) | (refine wpList_store_letter rfl 29 _ _ rfl w5.heap.size 0 (hc (Hs K)) rfl rfl 32 hsz1.out hwa.there Try.size29 (hc_one _) ?_; intro wb hwb; have hbb := hwa.below.trans hwb.below; have hc2b := (hbb.cell (p := ⟨b2, o2 + K, none⟩) hb2').trans hc2'; have hc3b := (hbb.cell (p := ⟨b3, o3 + K, none⟩) hb3').trans hc3'; have hx := hwb.range 0 (cell x0) (by rw [hx0.out]; rfl); have hfx := (hwb.there _ _ _ hwa.there 0 (by omega)).2; simp only [Nat.add_zero, cell] at hx hfx))
              have hrX : wb.rangeAt w5.heap.size 0 (hc (x0 :: r0)) := by rw [← hx0.out]; exact hwb.range
              have hrF := flip_range hrX
              have hbF : Below w5.heap.size w5 (wb.setCell ⟨w5.heap.size, 0, none⟩ (.int .u8 (bits BinOp.xor IntKind.u8 (x0.toNat : Int) 1))) := hbb.setCell (p := ⟨w5.heap.size, 0, none⟩) (Nat.le_refl _) _
              have hHF : w5.heap.size < (wb.setCell ⟨w5.heap.size, 0, none⟩ (.int .u8 (bits BinOp.xor IntKind.u8 (x0.toNat : Int) 1))).heap.size := by
                have h1 := ((Below.refl 0 wb).setCell (p := ⟨w5.heap.size, 0, none⟩) (Nat.zero_le _) (.int .u8 (bits BinOp.xor IntKind.u8 (x0.toNat : Int) 1))).size
                have := hwa.size; have := hwb.below.size; omega
              generalize wb.setCell ⟨w5.heap.size, 0, none⟩ (.int .u8 (bits BinOp.xor IntKind.u8 (x0.toNat : Int) 1)) = WF at *
              have hMF := hM5.keep hbF
              have hM0 := hMF.noRows
              have hc2F := (hbF.cell (p := ⟨b2, o2 + K, none⟩) hb2').trans hc2'
              have hc3F := (hbF.cell (p := ⟨b3, o3 + K, none⟩) hb3').trans hc3'
              have hthF : WF.there G2 (K * 34) 34 := there_sub hMF.th (by omega) (by omega)
              have hlF : ((x0 ^^^ 1) :: r0).length = 32 := by have h := hl1; rw [hx0.out] at h; simpa using h
              have HflN : Hid (x0 :: r0 ≠ (x0 ^^^ 1) :: r0) := flip_ne x0 r0
              generalize hfl : (x0 ^^^ 1) :: r0 = fl at *
              have hiF : (Try.prog.info? 29).map (·.size) = some (hc fl).length := by rw [hc_length, hlF]; exact Try.size29
              have hiW : (Try.prog.info? 33).map (·.size) = some (wc fl (T K) (R K)).length := by rw [wc_length, hlF]; exact Try.size33
              have hlW : (wc fl (T K) (R K)).length = 34 := by rw [wc_length, hlF]
              have honW := wc_one fl (T K) (R K)
              have hu33 := Try.underlying33
              have hu := Try.underlying29
              have n2 : b2 ≠ G2 := by have := hMF.o1; have := hMF.o2; omega
              have n3 : b3 ≠ G2 := by have := hMF.o1; have := hMF.o2; omega
              have nH : w5.heap.size ≠ G2 := by have := hM5.o3; omega
              clear hfl hrX hwb hwa hbb hr1' hc2' hc3' hi1 hsz1 hzs Hz2 hA0 hA1 hA2 hA3 hl1 hc2b hc3b hx hfx hM5 hbF
              generalize w5.heap.size = F at *
              go_region_held3 (fun W => W.cell? ⟨b2, o2 + K, none⟩ = some (.int .i64 (T K)) ∧ W.cell? ⟨b3, o3 + K, none⟩ = some (.bool (R K)) ∧ W.rangeAt F 0 (hc fl) ∧ W.there G2 (K * 34) 34 ∧ F < W.heap.size ∧ Mid w' W w'.heap.size G2 m k 0 L (ownHash L Hs T) T R) (first | exact keep_drew ⟨hc2F, hc3F, hrF, hthF, hHF, hM0⟩ | exact keep_call (by assumption) hbc | exact keep_store2 (by assumption) n2 n3 nH) ((go_at_call 14; refine (watch_wc _ hlF _ _ _).mono ?_; rintro e wk ⟨rfl, hbc⟩; have hthk : wk.there G2 (K * 34) 34 := below_there hbc hMF.o3 hthF))
              have hM6 := (hMF.drew.keep hbc).flip (K := K) (fl := fl) hOl.out hlF hK
              have hcn := cnt_flip L (ownHash L Hs T) (flipped (ownHash L Hs T) K fl) T K k (fun i hi => if_neg hi) (cnt_own L Hs T) (fun h => absurd h (by omega))
              have hlen' : ∀ i, i < k → (flipped (ownHash L Hs T) K fl i).length = 32 := fun i hi => by
                unfold flipped
                by_cases e : i = K
                · rw [if_pos e]; exact hlF
                · rw [if_neg e]; exact hOl.out i hi
              have hcf2 := fun (_ : True) => zzconf_any w'.heap.size G2 m k L (flipped (ownHash L Hs T) K fl) T R _ hm hn hL32 hlen' HT.out hM6.log hM6.rows (Nat.lt_trans hM6.o2 hM6.o3) hM6.o3
              rw [if_neg (fun h => absurd h.2 (by omega))] at hcn
              have Hcf2 : Hid _ := hcf2
              have Hcn : Hid (cnt L (flipped (ownHash L Hs T) K fl) T k = 0) := hcn
              have Hb6 : Hid (Below w'.heap.size w' (wk.setCells G2 (K * 34) (wc fl (T K) (R K)))) := hM6.below
              clear hcf2 hcn hM6 hlen' hMF hM0 hbc hthk hHF hc2F hc3F hthF hiF hu hrF hiW hlW honW hu33
              go_wp2_with fail
              refine (Hcf2.out trivial).mono ?_
              rintro e w7 ⟨he, hb7⟩
              rw [Hcn.out] at he
              subst he
              go_wp2
              go_ret
              exact ⟨rfl, Hb6.out.trans (hb7.mono (Hb6.out.size))⟩

end Go.Proofs.Qxb6602710a
