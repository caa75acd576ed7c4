/-
  THE PLAIN LAW, no Go in sight: a breadth-first walk that goes on from the distances that an earlier one left, and Bellman-Ford relaxation, come to the same distances.
-/
namespace Go.Proofs.Qxb6603240a.Plain

/-- A walk of k links from S to z. -/
def Reach (Adj : Nat → Nat → Prop) (S : Nat → Prop) : Nat → Nat → Prop
  | 0, z => S z
  | k + 1, z => ∃ y, Reach Adj S k y ∧ Adj y z

theorem Reach.wider {Adj : Nat → Nat → Prop} {S S' : Nat → Prop} (h : ∀ z, S z → S' z) : ∀ {k z}, Reach Adj S k z → Reach Adj S' k z
  | 0, _, hz => h _ hz
  | _ + 1, _, ⟨y, hy, ha⟩ => ⟨y, Reach.wider h hy, ha⟩

/-- No function that tells the first m numbers apart sends them all below n < m. -/
theorem pigeon : ∀ (n m : Nat) (q : Nat → Nat), (∀ i, i < m → q i < n) → (∀ i, i < m → ∀ j, j < m → q i = q j → i = j) → m ≤ n
  | _, 0, _, _, _ => Nat.zero_le _
  | 0, m + 1, q, h, _ => absurd (h 0 (Nat.zero_lt_succ _)) (Nat.not_lt_zero _)
  | n + 1, m + 1, q, h, hi => by
    -- the value of the last one is exchanged with n
    have := pigeon n m (fun i => if q i = n then q m else q i) (fun i hi' => by
      by_cases e : q i = n
      · have hne : q m ≠ n := fun e2 => by have := hi i (by omega) m (by omega) (e.trans e2.symm); omega
        simp only [if_pos e]
        have := h m (by omega)
        omega
      · simp only [if_neg e]
        have := h i (by omega)
        omega) (fun i hi' j hj' e => by
      by_cases e1 : q i = n
      · by_cases e2 : q j = n
        · exact hi i (by omega) j (by omega) (e1.trans e2.symm)
        · simp only [if_pos e1, if_neg e2] at e
          have := hi m (by omega) j (by omega) e
          omega
      · by_cases e2 : q j = n
        · simp only [if_neg e1, if_pos e2] at e
          have := hi i (by omega) m (by omega) e
          omega
        · simp only [if_neg e1, if_neg e2] at e
          exact hi i (by omega) j (by omega) e)
    omega

def upd {α : Type} (f : Nat → α) (i : Nat) (v : α) : Nat → α := fun j => if j = i then v else f j
theorem upd_same {α : Type} (f : Nat → α) (i : Nat) (v : α) : upd f i v i = v := if_pos rfl
theorem upd_other {α : Type} (f : Nat → α) (i : Nat) (v : α) {j : Nat} (h : j ≠ i) : upd f i v j = f j := if_neg h

section
variable {Adj : Nat → Nat → Prop} {n : Nat} {base : Int}

/-- What the walks so far, from S, have left. -/
structure Good (Adj : Nat → Nat → Prop) (n : Nat) (base : Int) (S : Nat → Prop) (aw : Nat → Int) : Prop where
  src : ∀ s, S s → aw s = base
  sndv : ∀ z, z < n → aw z < base + n → base ≤ aw z ∧ Reach Adj S (aw z - base).toNat z
  shutd : ∀ y z, aw y < base + n → Adj y z → aw z < base + n ∧ aw z ≤ aw y + 1

/-- In the midst of a walk: the queue holds q 0 .. q (m-1). -/
structure Bfs (Adj : Nat → Nat → Prop) (n : Nat) (base : Int) (S : Nat → Prop) (src : Nat) (aw0 aw : Nat → Int) (q : Nat → Nat) (m : Nat) : Prop where
  posm : 1 ≤ m
  hdq : q 0 = src
  lt : ∀ i, i < m → q i < n
  inj : ∀ i, i < m → ∀ j, j < m → q i = q j → i = j
  lo : ∀ i, i < m → base ≤ aw (q i) ∧ aw (q i) ≤ base + i
  mono : ∀ i j, i ≤ j → j < m → aw (q i) ≤ aw (q j)
  oldv : ∀ z, (∀ i, i < m → q i ≠ z) → aw z = aw0 z
  le : ∀ z, aw z ≤ aw0 z
  reach : ∀ i, i < m → Reach Adj (fun z => S z ∨ z = src) (aw (q i) - base).toNat (q i)

theorem Bfs.room {S : Nat → Prop} {src : Nat} {aw0 aw : Nat → Int} {q : Nat → Nat} {m : Nat} (h : Bfs Adj n base S src aw0 aw q m) : m ≤ n := pigeon n m q h.lt h.inj

/-- All that was processed is shutd; the current place is not far behind. -/
structure Front (Adj : Nat → Nat → Prop) (aw : Nat → Int) (q : Nat → Nat) (m k : Nat) : Prop where
  near : k < m → ∀ i, i < m → aw (q i) ≤ aw (q k) + 1
  dealt : ∀ i, i < k → ∀ z, Adj (q i) z → aw z ≤ aw (q i) + 1

theorem bfs_start {S : Nat → Prop} {src : Nat} {aw0 : Nat → Int} (hG : Good Adj n base S aw0) (hs : src < n) (q : Nat → Nat) (hq : q 0 = src) :
    Bfs Adj n base S src aw0 (upd aw0 src base) q 1 ∧ Front Adj (upd aw0 src base) q 1 0 := by
  have h0 : ∀ i, i < 1 → i = 0 := fun i hi => by omega
  refine ⟨⟨Nat.le_refl _, hq, ?_, ?_, ?_, ?_, ?_, ?_, ?_⟩, ⟨?_, fun i hi => absurd hi (Nat.not_lt_zero _)⟩⟩
  · intro i hi; rw [h0 i hi, hq]; exact hs
  · intro i hi j hj _; rw [h0 i hi, h0 j hj]
  · intro i hi; rw [h0 i hi, hq, upd_same]; omega
  · intro i j hij hj; rw [h0 j hj, h0 i (by omega)]; exact Int.le_refl _
  · intro z hz
    rw [upd_other]
    intro e
    exact hz 0 (by omega) (hq.trans e.symm)
  · intro z
    by_cases e : z = src
    · subst e
      rw [upd_same]
      by_cases hr : aw0 z < base + n
      · exact (hG.sndv z hs hr).1
      · omega
    · rw [upd_other _ _ _ e]; exact Int.le_refl _
  · intro i hi
    rw [h0 i hi, hq, upd_same, show (base - base).toNat = 0 from by omega]
    exact .inr rfl
  · intro _ i hi; rw [h0 i hi]; omega

/-- One link tried: z at the far end is farther than the walk makes it: it is lowered and joins the queue. -/
theorem bfs_lower {S : Nat → Prop} {src : Nat} {aw0 aw : Nat → Int} {q : Nat → Nat} {m k z : Nat} (hB : Bfs Adj n base S src aw0 aw q m) (hF : Front Adj aw q m k) (hk : k < m) (hA : Adj (q k) z) (hz : z < n) (hd : aw (q k) + 1 < aw z) :
    Bfs Adj n base S src aw0 (upd aw z (aw (q k) + 1)) (upd q m z) (m + 1) ∧ Front Adj (upd aw z (aw (q k) + 1)) (upd q m z) (m + 1) k ∧ (∀ y, upd aw z (aw (q k) + 1) y ≤ aw y) ∧ upd aw z (aw (q k) + 1) (q k) = aw (q k) := by
  have hnot : ∀ i, i < m → q i ≠ z := fun i hi e => by have := hF.near hk i hi; rw [e] at this; omega
  have hqo : ∀ i, i < m → upd q m z i = q i := fun i hi => upd_other _ _ _ (by omega)
  have hao : ∀ i, i < m → upd aw z (aw (q k) + 1) (q i) = aw (q i) := fun i hi => upd_other _ _ _ (hnot i hi)
  have hqm : upd q m z m = z := upd_same _ _ _
  have haz : upd aw z (aw (q k) + 1) z = aw (q k) + 1 := upd_same _ _ _
  have hcase : ∀ i, i < m + 1 → i < m ∨ i = m := fun i hi => by omega
  have hle : ∀ y, upd aw z (aw (q k) + 1) y ≤ aw y := by
    intro y
    by_cases e : y = z
    · subst e; rw [upd_same]; omega
    · rw [upd_other _ _ _ e]; exact Int.le_refl _
  have hlk := hB.lo k hk
  refine ⟨⟨by omega, by rw [hqo 0 (by omega)]; exact hB.hdq, ?_, ?_, ?_, ?_, ?_, ?_, ?_⟩, ⟨?_, ?_⟩, hle, hao k hk⟩
  · intro i hi
    rcases hcase i hi with h | h
    · rw [hqo i h]; exact hB.lt i h
    · rw [h, hqm]; exact hz
  · intro i hi j hj e
    rcases hcase i hi with h | h <;> rcases hcase j hj with h' | h'
    · rw [hqo i h, hqo j h'] at e; exact hB.inj i h j h' e
    · rw [hqo i h, h', hqm] at e; exact absurd e (hnot i h)
    · rw [h, hqm, hqo j h'] at e; exact absurd e.symm (hnot j h')
    · omega
  · intro i hi
    rcases hcase i hi with h | h
    · rw [hqo i h, hao i h]; exact hB.lo i h
    · rw [h, hqm, haz]; omega
  · intro i j hij hj
    rcases hcase j hj with h' | h'
    · rw [hqo i (by omega), hqo j h', hao i (by omega), hao j h']; exact hB.mono i j hij h'
    · rcases hcase i (by omega) with h | h
      · rw [hqo i h, h', hqm, hao i h, haz]; exact hF.near hk i h
      · rw [h, h']; exact Int.le_refl _
  · intro y hy
    have hyz : y ≠ z := fun e => hy m (by omega) (by rw [hqm, e])
    rw [upd_other _ _ _ hyz]
    exact hB.oldv y (fun i hi e => hy i (by omega) (by rw [hqo i hi, e]))
  · intro y; exact Int.le_trans (hle y) (hB.le y)
  · intro i hi
    rcases hcase i hi with h | h
    · rw [hqo i h, hao i h]; exact hB.reach i h
    · rw [h, hqm, haz, show (aw (q k) + 1 - base).toNat = (aw (q k) - base).toNat + 1 from by omega]
      exact ⟨q k, hB.reach k hk, hA⟩
  · intro _ i hi
    rw [hqo k hk, hao k hk]
    rcases hcase i hi with h | h
    · rw [hqo i h, hao i h]; exact hF.near hk i h
    · rw [h, hqm, haz]; omega
  · intro i hi y hy
    rw [hqo i (by omega)] at hy
    rw [hqo i (by omega), hao i (by omega)]
    exact Int.le_trans (hle y) (hF.dealt i hi y hy)

/-- The place behind the queue's end is written; nothing else. -/
theorem bfs_spare {S : Nat → Prop} {src : Nat} {aw0 aw : Nat → Int} {q : Nat → Nat} {m k z : Nat} (hB : Bfs Adj n base S src aw0 aw q m) (hF : Front Adj aw q m k) (hk : k < m) :
    Bfs Adj n base S src aw0 aw (upd q m z) m ∧ Front Adj aw (upd q m z) m k := by
  have hqo : ∀ i, i < m → upd q m z i = q i := fun i hi => upd_other _ _ _ (by omega)
  refine ⟨⟨hB.posm, by rw [hqo 0 hB.posm]; exact hB.hdq, fun i hi => by rw [hqo i hi]; exact hB.lt i hi, fun i hi j hj e => by rw [hqo i hi, hqo j hj] at e; exact hB.inj i hi j hj e, fun i hi => by rw [hqo i hi]; exact hB.lo i hi,
    fun i j hij hj => by rw [hqo i (by omega), hqo j hj]; exact hB.mono i j hij hj, fun y hy => hB.oldv y (fun i hi e => hy i hi (by rw [hqo i hi, e])), hB.le, fun i hi => by rw [hqo i hi]; exact hB.reach i hi⟩, ⟨?_, ?_⟩⟩
  · intro _ i hi; rw [hqo i hi, hqo k hk]; exact hF.near hk i hi
  · intro i hi y hy; rw [hqo i (by omega)] at hy ⊢; exact hF.dealt i hi y hy

/-- All links of the current one are tried: on to the next. -/
theorem front_next {S : Nat → Prop} {src : Nat} {aw0 aw : Nat → Int} {q : Nat → Nat} {m k : Nat} (hB : Bfs Adj n base S src aw0 aw q m) (hF : Front Adj aw q m k) (hk : k < m) (hall : ∀ z, Adj (q k) z → aw z ≤ aw (q k) + 1) : Front Adj aw q m (k + 1) := by
  refine ⟨fun hk1 i hi => ?_, fun i hi z hz => ?_⟩
  · have h1 := hF.near hk i hi
    have h2 := hB.mono k (k + 1) (by omega) hk1
    omega
  · by_cases e : i = k
    · subst e; exact hall z hz
    · exact hF.dealt i (by omega) z hz

/-- The walk's end. -/
theorem bfs_end {S : Nat → Prop} {src : Nat} {aw0 aw : Nat → Int} {q : Nat → Nat} {m : Nat} (hAdj : ∀ y z, Adj y z → y < n ∧ z < n) (hG : Good Adj n base S aw0) (hB : Bfs Adj n base S src aw0 aw q m) (hF : Front Adj aw q m m) :
    Good Adj n base (fun z => S z ∨ z = src) aw ∧ (∀ z, base + n ≤ aw z → aw z = aw0 z) ∧ ∀ z, n ≤ z → aw z = aw0 z := by
  have hm := hB.room
  have mem : ∀ z, (∃ i, i < m ∧ q i = z) ∨ (∀ i, i < m → q i ≠ z) := fun z => by
    by_cases h : ∃ i, i < m ∧ q i = z
    · exact .inl h
    · exact .inr fun i hi e => h ⟨i, hi, e⟩
  have hsrc : aw src = base := by
    have := hB.lo 0 hB.posm
    rw [hB.hdq] at this
    omega
  refine ⟨⟨?_, ?_, ?_⟩, ?_, ?_⟩
  · intro s hs
    rcases hs with hs | rfl
    · have h0 := hG.src s hs
      have h1 := hB.le s
      rcases mem s with ⟨i, hi, e⟩ | h
      · have := hB.lo i hi
        rw [e] at this
        omega
      · rw [hB.oldv s h]; exact h0
    · exact hsrc
  · intro z hz hr
    rcases mem z with ⟨i, hi, rfl⟩ | h
    · exact ⟨(hB.lo i hi).1, hB.reach i hi⟩
    · have e := hB.oldv z h
      rw [e] at hr ⊢
      have := hG.sndv z hz hr
      exact ⟨this.1, this.2.wider fun _ h => .inl h⟩
  · intro y z hr hA
    rcases mem y with ⟨i, hi, rfl⟩ | h
    · have h1 := hF.dealt i hi z hA
      refine ⟨?_, h1⟩
      have h2 := hB.lo i hi
      rcases mem z with ⟨j, hj, rfl⟩ | hz
      · have h3 := (hB.lo j hj).2
        omega
      · -- z is none of them: so there are fewer than n
        have h4 : m + 1 ≤ n := pigeon n (m + 1) (upd q m z) (fun i hi => by
          by_cases e : i = m
          · subst e; rw [upd_same]; exact (hAdj _ _ hA).2
          · rw [upd_other _ _ _ e]; exact hB.lt i (by omega)) (fun i hi j hj e => by
          by_cases e1 : i = m
          · by_cases e2 : j = m
            · omega
            · rw [e1, upd_same, upd_other _ _ _ e2] at e; exact absurd e.symm (hz j (by omega))
          · by_cases e2 : j = m
            · rw [e2, upd_same, upd_other _ _ _ e1] at e; exact absurd e (hz i (by omega))
            · rw [upd_other _ _ _ e1, upd_other _ _ _ e2] at e; exact hB.inj i (by omega) j (by omega) e)
        omega
    · have e := hB.oldv y h
      rw [e] at hr ⊢
      have h1 := hG.shutd y z hr hA
      have h2 := hB.le z
      omega
  · intro z hz
    rcases mem z with ⟨i, hi, rfl⟩ | h
    · have := hB.lo i hi
      omega
    · exact hB.oldv z h
  · intro z hz
    refine hB.oldv z fun i hi e => ?_
    have := hB.lt i hi
    omega

/-! ### Bellman-Ford -/
def cnt (dd : Nat → Int) : Nat → Int
  | 0 => 0
  | n + 1 => cnt dd n + if 0 ≤ dd n then 1 else 0

theorem cnt_le (dd : Nat → Int) (n : Nat) : 0 ≤ cnt dd n ∧ cnt dd n ≤ n := by
  induction n with
  | zero => exact ⟨Int.le_refl _, Int.le_refl _⟩
  | succ n ih => unfold cnt; split <;> omega

theorem cnt_far (dd : Nat → Int) (z : Nat) (v : Int) : ∀ n, n ≤ z → cnt (upd dd z v) n = cnt dd n
  | 0, _ => rfl
  | n + 1, h => by rw [cnt, cnt, cnt_far dd z v n (by omega), upd_other _ _ _ (by omega)]

theorem cnt_upd (dd : Nat → Int) (z : Nat) (v : Int) (hv : 0 ≤ v) : ∀ n, z < n → cnt (upd dd z v) n = cnt dd n + if dd z < 0 then 1 else 0
  | 0, h => absurd h (Nat.not_lt_zero _)
  | n + 1, h => by
    rw [cnt, cnt]
    by_cases e : z = n
    · subst e
      rw [cnt_far dd z v z (Nat.le_refl _), upd_same, if_pos hv]
      by_cases h2 : dd z < 0
      · rw [if_pos h2, if_neg (by omega)]; omega
      · rw [if_neg h2, if_pos (by omega)]; omega
    · rw [cnt_upd dd z v hv n (by omega), upd_other _ _ _ (by omega)]
      omega

theorem cnt_pos (dd : Nat → Int) (z : Nat) (hz : 0 ≤ dd z) : ∀ n, z < n → 1 ≤ cnt dd n
  | 0, h => absurd h (Nat.not_lt_zero _)
  | n + 1, h => by
    rw [cnt]
    by_cases e : z = n
    · subst e
      rw [if_pos hz]
      have := (cnt_le dd z).1
      omega
    · have := cnt_pos dd z hz n (by omega)
      split <;> omega

structure Bf (Adj : Nat → Nat → Prop) (n : Nat) (S : Nat → Prop) (dd : Nat → Int) : Prop where
  lo : ∀ z, z < n → -1 ≤ dd z ∧ dd z < cnt dd n
  src : ∀ s, S s → dd s = 0
  sndv : ∀ z, z < n → 0 ≤ dd z → Reach Adj S (dd z).toNat z

/-- Whatever is at most r links away is known to be so. -/
def Upto (Adj : Nat → Nat → Prop) (S : Nat → Prop) (r : Nat) (dd : Nat → Int) : Prop := ∀ k, k ≤ r → ∀ z, Reach Adj S k z → 0 ≤ dd z ∧ dd z ≤ k

/-- No place is forgotten, no distance raised. -/
def Better (dd dd' : Nat → Int) : Prop := ∀ z, 0 ≤ dd z → 0 ≤ dd' z ∧ dd' z ≤ dd z

theorem bf_relax {S : Nat → Prop} {dd : Nat → Int} {y z : Nat} (h : Bf Adj n S dd) (hz : z < n) (hA : Adj y z) (hy : y < n) (hy0 : 0 ≤ dd y) (ht : dd z < 0 ∨ dd y + 1 < dd z) :
    Bf Adj n S (upd dd z (dd y + 1)) ∧ Better dd (upd dd z (dd y + 1)) := by
  have hc := cnt_upd dd z (dd y + 1) (by omega) n hz
  have hly := h.lo y hy
  have hlz := h.lo z hz
  refine ⟨⟨?_, ?_, ?_⟩, ?_⟩
  · intro x hx
    rw [hc]
    by_cases e : x = z
    · subst e
      rw [upd_same]
      by_cases h2 : dd x < 0
      · rw [if_pos h2]; omega
      · rw [if_neg h2]; omega
    · rw [upd_other _ _ _ e]
      have := h.lo x hx
      by_cases h2 : dd z < 0
      · rw [if_pos h2]; omega
      · rw [if_neg h2]; omega
  · intro s hs
    have h0 := h.src s hs
    by_cases e : s = z
    · subst e; omega
    · rw [upd_other _ _ _ e]; exact h0
  · intro x hx hx0
    by_cases e : x = z
    · subst e
      rw [upd_same, show (dd y + 1).toNat = (dd y).toNat + 1 from by omega]
      exact ⟨y, h.sndv y hy hy0, hA⟩
    · rw [upd_other _ _ _ e] at hx0 ⊢
      exact h.sndv x hx hx0
  · intro x hx
    by_cases e : x = z
    · subst e; rw [upd_same]; omega
    · rw [upd_other _ _ _ e]; exact ⟨hx, Int.le_refl _⟩

theorem Upto.better {S : Nat → Prop} {r : Nat} {dd dd' : Nat → Int} (h : Upto Adj S r dd) (hb : Better dd dd') : Upto Adj S r dd' := fun k hk z hz => by
  have h1 := h k hk z hz
  have h2 := hb z h1.1
  omega

theorem upto_zero {S : Nat → Prop} {dd : Nat → Int} (h : Bf Adj n S dd) : Upto Adj S 0 dd := fun k hk z hz => by
  obtain rfl : k = 0 := by omega
  have := h.src z hz
  omega

/-- A whole round dealt: one link farther. -/
theorem upto_succ {S : Nat → Prop} {r : Nat} {dd : Nat → Int} (h : Upto Adj S r dd) (hAdj : ∀ y z, Adj y z → y < n ∧ z < n) (hp : ∀ y, y < n → ∀ z, Adj y z → Reach Adj S r y → 0 ≤ dd z ∧ dd z ≤ r + 1) : Upto Adj S (r + 1) dd := fun k hk z hz => by
  by_cases e : k = r + 1
  · subst e
    obtain ⟨y, hy, hA⟩ := hz
    have := hp y (hAdj y z hA).1 z hA hy
    omega
  · exact h k (by omega) z hz

/-- Nothing changed in a round: it is dealt for good. -/
theorem upto_closed {S : Nat → Prop} {dd : Nat → Int} (h : Bf Adj n S dd) (hAdj : ∀ y z, Adj y z → y < n ∧ z < n) (hc : ∀ y, y < n → 0 ≤ dd y → ∀ z, Adj y z → 0 ≤ dd z ∧ dd z ≤ dd y + 1) : ∀ r, Upto Adj S r dd := by
  have key : ∀ k z, Reach Adj S k z → 0 ≤ dd z ∧ dd z ≤ k := by
    intro k
    induction k with
    | zero => intro z hz; have := h.src z hz; omega
    | succ k ih =>
      rintro z ⟨y, hy, hA⟩
      have h1 := ih y hy
      have h2 := hc y (hAdj y z hA).1 h1.1 z hA
      omega
  exact fun r k _ z hz => key k z hz

/-- ████ THE TWO AGREE. -/
theorem agree {S : Nat → Prop} {dd aw : Nat → Int} (hB : Bf Adj n S dd) (hU : Upto Adj S n dd) (hG : Good Adj n base S aw) (_hn : 0 < n) {z : Nat} (hz : z < n) :
    (0 ≤ dd z → aw z = base + dd z) ∧ (dd z < 0 → base + n ≤ aw z) := by
  have key : ∀ k x, Reach Adj S k x → aw x < base + n ∧ aw x ≤ base + k := by
    intro k
    induction k with
    | zero => intro x hx; have := hG.src x hx; omega
    | succ k ih =>
      rintro x ⟨y, hy, hA⟩
      have h1 := ih y hy
      have h2 := hG.shutd y x h1.1 hA
      omega
  constructor
  · intro h0
    have h1 := key _ z (hB.sndv z hz h0)
    have h2 := hG.sndv z hz h1.1
    have h3 := hU (aw z - base).toNat (by omega) z h2.2
    omega
  · intro h0
    by_cases hr : aw z < base + n
    · have h2 := hG.sndv z hz hr
      have h3 := hU (aw z - base).toNat (by omega) z h2.2
      omega
    · omega

theorem good_none {aw : Nat → Int} (h : ∀ z, z < n → base + n ≤ aw z) (hAdj : ∀ y z, Adj y z → y < n ∧ z < n) : Good Adj n base (fun _ => False) aw :=
  ⟨fun _ h => h.elim, fun z hz hr => absurd (h z hz) (by omega), fun y z hr hA => absurd (h y (hAdj y z hA).1) (by omega)⟩

theorem bf_start {a b : Nat} (ha : a < n) (hb : b < n) : Bf Adj n (fun z => z = a ∨ z = b) (upd (upd (fun _ => -1) a 0) b 0) := by
  have hva : upd (upd (fun _ => (-1 : Int)) a 0) b 0 a = 0 := by
    by_cases e : a = b
    · subst e; exact upd_same _ _ _
    · rw [upd_other _ _ _ e]; exact upd_same _ _ _
  have hvb : upd (upd (fun _ => (-1 : Int)) a 0) b 0 b = 0 := upd_same _ _ _
  have hvo : ∀ z, z ≠ a → z ≠ b → upd (upd (fun _ => (-1 : Int)) a 0) b 0 z = -1 := fun z h1 h2 => by rw [upd_other _ _ _ h2, upd_other _ _ _ h1]
  have hc := cnt_pos (upd (upd (fun _ => (-1 : Int)) a 0) b 0) a (by omega) n ha
  refine ⟨fun z _ => ?_, ?_, fun z _ h0 => ?_⟩
  · by_cases e1 : z = a
    · rw [e1, hva]; omega
    · by_cases e2 : z = b
      · rw [e2, hvb]; omega
      · rw [hvo z e1 e2]; omega
  · rintro s (rfl | rfl)
    · exact hva
    · exact hvb
  · by_cases e1 : z = a
    · rw [e1, hva]; exact .inl rfl
    · by_cases e2 : z = b
      · rw [e2, hvb]; exact .inr rfl
      · rw [hvo z e1 e2] at h0; omega
end
end Go.Proofs.Qxb6603240a.Plain
