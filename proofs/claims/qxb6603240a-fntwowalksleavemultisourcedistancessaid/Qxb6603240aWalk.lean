/-
  THE WALK OF '(*backbone).walk'.
-/
import Derived.Test.Qxb6603240aState
namespace Go.Proofs.Qxb6603240a
open Go.RowKit Plain

/-- Within 32 bits. -/
def Fits (al : Nat) (aw : Nat → Int) : Prop := ∀ z, z < al → -2147483648 ≤ aw z ∧ aw z ≤ 2147483647

/-- In the midst of the walk. -/
structure Mid (w wr : World) (H1 A2 Q al cap n : Nat) (base : Int) (S : Nat → Prop) (ll : Nat → Nat) (Z : Nat → Nat → Int) (src : Nat) (aw0 aw : Nat → Int) (q : Nat → Nat) (X : Nat → Int) (m : Nat) : Prop where
  below : Below H1 w wr
  keeps : Keeps (fun b => b < w.heap.size ∧ b ≠ A2 ∧ b ≠ Q) w wr
  haw : Ints wr A2 al aw
  hqx : Ints wr Q cap X
  same : ∀ i, i < m → X i = (q i : Int)
  bfs : Bfs (Adj n ll Z) n base S src aw0 aw q m
  fits : Fits al aw

/-- What the walk leaves. -/
structure WalkLeft (w w' : World) (H1 A2 T QB al n : Nat) (base : Int) (S : Nat → Prop) (ll : Nat → Nat) (Z : Nat → Nat → Int) (src : Nat) (aw0 : Nat → Int) (qa : Option Addr) (Q m cap : Nat) (aw : Nat → Int) : Prop where
  mcap : m ≤ cap
  cap63 : cap ≤ 9223372036854775807
  below : Below H1 w w'
  hQ : H1 ≤ Q
  hQA : Q ≠ A2
  oldv : (qa = some ⟨QB, 0, none⟩ ∧ Q = QB) ∨ w.heap.size ≤ Q
  pool : Pool w' Q cap
  haw : Ints w' A2 al aw
  fits : Fits al aw
  good : Plain.Good (Adj n ll Z) n base (fun z => S z ∨ z = src) aw
  far : ∀ z, base + n ≤ aw z → aw z = aw0 z
  past : ∀ z, n ≤ z → aw z = aw0 z
  t1 : w'.cell? ⟨T, 1, none⟩ = some (.slice (some ⟨A2, 0, none⟩) al al)
  t4 : w'.cell? ⟨T, 4, none⟩ = some (.slice (some ⟨Q, 0, none⟩) m cap)
  keeps : Keeps (fun b => b < w.heap.size ∧ b ≠ A2 ∧ b ≠ Q ∧ b ≠ T) w w'

def WalkPost (w w' : World) (H1 A2 T QB al n : Nat) (base : Int) (S : Nat → Prop) (ll : Nat → Nat) (Z : Nat → Nat → Int) (src : Nat) (aw0 : Nat → Int) (qa : Option Addr) (e : Ending) : Prop :=
  ∃ Q m cap aw, e = .returned (.slice (some ⟨Q, 0, none⟩) m cap) ∧ WalkLeft w w' H1 A2 T QB al n base S ll Z src aw0 qa Q m cap aw

theorem upd_self (f : Nat → Int) (i : Nat) : upd f i (f i) = f := funext fun j => by
  by_cases e : j = i
  · subst e; exact upd_same _ _ _
  · exact upd_other _ _ _ e

section
variable {w wr : World} {H1 A2 Q al cap n : Nat} {base : Int} {S : Nat → Prop} {ll : Nat → Nat} {Z : Nat → Nat → Int} {src : Nat} {aw0 aw : Nat → Int} {q : Nat → Nat} {X : Nat → Int} {m k z : Nat}
theorem Mid.lower (h : Mid w wr H1 A2 Q al cap n base S ll Z src aw0 aw q X m) (hF : Front (Adj n ll Z) aw q m k) (hk : k < m) (hAd : Adj n ll Z (q k) z) (hz : z < n) (hd : aw (q k) + 1 < aw z)
    (hQA : Q ≠ A2) (h1A : H1 ≤ A2) (h1Q : H1 ≤ Q) (hmc : m < cap) (hal : n ≤ al) (hb1 : -2147483648 ≤ base) :
    Mid w ((wr.setCell ⟨Q, m, none⟩ (.int .i32 z)).setCell ⟨A2, z, none⟩ (.int .i32 (aw (q k) + 1))) H1 A2 Q al cap n base S ll Z src aw0 (upd aw z (aw (q k) + 1)) (upd q m z) (upd X m z) (m + 1) ∧ Front (Adj n ll Z) (upd aw z (aw (q k) + 1)) (upd q m z) (m + 1) k ∧ (∀ y, upd aw z (aw (q k) + 1) y ≤ aw y) ∧ upd aw z (aw (q k) + 1) (q k) = aw (q k) ∧ upd q m z k = q k := by
  obtain ⟨h1, h2, h3, h4⟩ := bfs_lower h.bfs hF hk hAd hz hd
  refine ⟨⟨(h.below.setCell (p := ⟨Q, m, none⟩) h1Q _).setCell (p := ⟨A2, z, none⟩) h1A _, (h.keeps.put (fun e => e.2.2 rfl) _).put (fun e => e.2.1 rfl) _, (h.haw.past (fun e => hQA e.symm)).put (by omega) _, (h.hqx.put hmc _).past hQA, ?_, h1, ?_⟩, h2, h3, h4, upd_other _ _ _ (by omega)⟩
  · intro i hi
    by_cases e : i = m
    · subst e; rw [upd_same, upd_same]
    · rw [upd_other _ _ _ e, upd_other _ _ _ e]; exact h.same i (by omega)
  · intro y hy
    by_cases e : y = z
    · subst e
      rw [upd_same]
      have := h.bfs.lo k hk
      have := h.fits y hy
      omega
    · rw [upd_other _ _ _ e]; exact h.fits y hy

theorem Mid.spare (h : Mid w wr H1 A2 Q al cap n base S ll Z src aw0 aw q X m) (hF : Front (Adj n ll Z) aw q m k) (hk : k < m) (hz : z < n)
    (hQA : Q ≠ A2) (h1A : H1 ≤ A2) (h1Q : H1 ≤ Q) (hmc : m < cap) (hal : n ≤ al) :
    Mid w ((wr.setCell ⟨Q, m, none⟩ (.int .i32 z)).setCell ⟨A2, z, none⟩ (.int .i32 (aw z))) H1 A2 Q al cap n base S ll Z src aw0 aw (upd q m z) (upd X m z) m ∧ Front (Adj n ll Z) aw (upd q m z) m k ∧ upd q m z k = q k := by
  obtain ⟨h1, h2⟩ := bfs_spare (z := z) h.bfs hF hk
  have ha := (h.haw.past (b := Q) (i := m) (v := .int .i32 z) (fun e => hQA e.symm)).put (i := z) (by omega) (aw z)
  rw [upd_self] at ha
  refine ⟨⟨(h.below.setCell (p := ⟨Q, m, none⟩) h1Q _).setCell (p := ⟨A2, z, none⟩) h1A _, (h.keeps.put (fun e => e.2.2 rfl) _).put (fun e => e.2.1 rfl) _, ha, (h.hqx.put hmc _).past hQA, ?_, h1, h.fits⟩, h2, upd_other _ _ _ (by omega)⟩
  intro i hi
  rw [upd_other _ _ _ (by omega), upd_other _ _ _ (by omega)]; exact h.same i hi
end

/-- The rounds of the walk's outer loop. -/
def Outer (w wr : World) (H1 A2 Q al cap n : Nat) (base : Int) (S : Nat → Prop) (ll : Nat → Nat) (Z : Nat → Nat → Int) (src : Nat) (aw0 : Nat → Int) (m k : Nat) : Prop :=
  ∃ aw q X, Mid w wr H1 A2 Q al cap n base S ll Z src aw0 aw q X m ∧ Front (Adj n ll Z) aw q m k

/-- The rounds of its inner loop. -/
def Inner (w wr : World) (H1 A2 Q al cap n : Nat) (base : Int) (S : Nat → Prop) (ll : Nat → Nat) (Z : Nat → Nat → Int) (src : Nat) (aw0 : Nat → Int) (k y : Nat) (D : Int) (m j : Nat) : Prop :=
  ∃ aw q X, Mid w wr H1 A2 Q al cap n base S ll Z src aw0 aw q X m ∧ Front (Adj n ll Z) aw q m k ∧ k < m ∧ q k = y ∧ aw y = D ∧ ∀ x, x < j → ∀ z : Nat, Z y x = z → aw z ≤ D + 1

set_option maxRecDepth 100000 in
set_option maxHeartbeats 4000000 in
theorem walk_any (H1 G1 T A2 QB n nc al ql qc src : Nat) (lift base : Int) (ll : Nat → Nat) (Z : Nat → Nat → Int) (aw0 : Nat → Int) (S : Nat → Prop) (qa : Option Addr) (w : World)
    (hL : LinksAt H1 w (some ⟨G1, 0, none⟩) n ll Z) (hin : InRange n n ll Z) (hll : ∀ i, i < n → ll i ≤ 1048576) (hn : n ≤ 1048576) (hnal : n ≤ al) (hal : al ≤ 1048576)
    (hT : T < w.heap.size) (hTH : H1 ≤ T) (hTA : T ≠ A2)
    (ht0 : w.cell? ⟨T, 0, none⟩ = some (.slice (some ⟨G1, 0, none⟩) n nc)) (ht1 : w.cell? ⟨T, 1, none⟩ = some (.slice (some ⟨A2, 0, none⟩) al al)) (ht2 : w.cell? ⟨T, 2, none⟩ = some (.int .i32 lift)) (ht4 : w.cell? ⟨T, 4, none⟩ = some (.slice qa ql qc))
    (hf4 : w.frozen? ⟨T, 4, none⟩ = false)
    (hA : Ints w A2 al aw0) (hAH : H1 ≤ A2) (hfit : Fits al aw0)
    (hq : QueueOk w H1 qa qc QB) (hqA : QB ≠ A2) (hqT : QB ≠ T) (hqc : qc ≤ 9223372036854775807)
    (hbase : IntKind.i32.wrap (0 - lift) = base) (hb1 : -2147483648 ≤ base) (hb2 : base + n ≤ 2147483647)
    (hG : Plain.Good (Adj n ll Z) n base S aw0) (hs : src < n) :
    Calls Try.prog 22 #[.pointer (some ⟨T, 0, none⟩), .int .i32 src] w fun e w' => WalkPost w w' H1 A2 T QB al n base S ll Z src aw0 qa e := by
  have hc0 := hA.cell src (by omega)
  have hf0 := hA.free src (by omega)
  have hcT0 : ∀ v, (w.setCell ⟨A2, src, none⟩ v).cell? ⟨T, 4, none⟩ = some (.slice qa ql qc) := fun v => by rw [World.cell?_setCell_other _ _ _ _ (by intro h; simp at h <;> omega)]; exact ht4
  go_enter Try.func22, Try.ntmps22
  go_wp2_with (first | (refine wpList_neg rfl _ _ rfl lift base rfl hbase ?_) | (go_quiet (fail)))
  have hA1 : Ints ((w.drewN nq).setCell ⟨A2, src, none⟩ (.int .i32 base)) A2 al (upd aw0 src base) := Ints.put (w := w.drewN nq) ⟨hA.lt, hA.cell, hA.free⟩ (by omega) base
  have hbl1 : Below H1 w ((w.drewN nq).setCell ⟨A2, src, none⟩ (.int .i32 base)) := (below_drewN H1 w nq).setCell (p := ⟨A2, src, none⟩) hAH _
  have hk1 : Keeps (fun b => b ≠ A2) w ((w.drewN nq).setCell ⟨A2, src, none⟩ (.int .i32 base)) := Keeps.put (w := w.drewN nq) (fun _ _ => rfl) (by simp) _
  have hs1 : ((w.drewN nq).setCell ⟨A2, src, none⟩ (.int .i32 base)).heap.size = w.heap.size := World.size_setCell _ _ _
  generalize (w.drewN nq).setCell ⟨A2, src, none⟩ (.int .i32 base) = w1 at hA1 hbl1 hk1 hs1 ⊢
  have hq1 : QueueOk w1 H1 qa qc QB := by
    rcases hq with h | ⟨h1, h2, h3⟩
    · exact .inl h
    · obtain ⟨X, hX⟩ := h2.ints
      exact .inr ⟨h1, (hX.kept hk1 hqA (Nat.le_of_eq hs1.symm)).pool, h3⟩
  have hgr := grow_any qa qc (n + 1) QB H1 w1 (by omega) (by omega) hqc (by omega) hq1
  rw [show ((n + 1 : Nat) : Int) = (n : Int) + 1 from by omega] at hgr
  refine hgr.mono ?_
  rintro e w2 ⟨Q, G, rfl, hNG, hG63, hbl2, hp2, hHQ, hQold⟩
  obtain ⟨X, hX⟩ := hp2.ints
  have hAlt := hA.lt
  have hQA : Q ≠ A2 := by rcases hQold with h | h <;> omega
  have hQT : Q ≠ T := by rcases hQold with h | h <;> omega
  have hA2 := hA1.kept (Keeps.of_below (P := fun b => b < w1.heap.size) hbl2 (fun _ h => h)) (by omega) hbl2.size
  have hold : (qa = some ⟨QB, 0, none⟩ ∧ Q = QB) ∨ w.heap.size ≤ Q := by rw [← hs1]; exact hQold
  have hM : Mid w (w2.setCell ⟨Q, 0, none⟩ (.int .i32 src)) H1 A2 Q al G n base S ll Z src aw0 (upd aw0 src base) (upd (fun _ => 0) 0 src) (upd X 0 src) 1 ∧ Front (Adj n ll Z) (upd aw0 src base) (upd (fun _ => 0) 0 src) 1 0 := by
    obtain ⟨h1, h2⟩ := bfs_start hG hs (upd (fun _ => 0) 0 src) (upd_same _ _ _)
    refine ⟨⟨(hbl1.trans (hbl2.mono (by omega))).setCell (p := ⟨Q, 0, none⟩) hHQ _, ?_, hA2.past (fun e => hQA e.symm), hX.put (by omega) _, ?_, h1, ?_⟩, h2⟩
    · refine Keeps.put ?_ (fun e => e.2.2 rfl) _
      exact (hk1.less fun b h => h.2.1).trans (Keeps.of_below hbl2 fun b h => by rw [hs1]; exact h.1)
    · intro i hi
      obtain rfl : i = 0 := by omega
      rw [upd_same, upd_same]
    · intro z hz
      by_cases e : z = src
      · subst e; rw [upd_same]; omega
      · rw [upd_other _ _ _ e]; exact hfit z hz
  have hO : Outer w (w2.setCell ⟨Q, 0, none⟩ (.int .i32 src)) H1 A2 Q al G n base S ll Z src aw0 1 0 := ⟨_, _, _, hM.1, hM.2⟩
  have hx0 := hX.cell 0 (by omega)
  have hxf := hX.free 0 (by omega)
  have HO : Hid _ := hO
  have HG : Hid _ := hG
  have HIN : Hid _ := hin
  have hGn : n + 1 ≤ G := hNG
  have hGI : (n : Int) + 1 ≤ (G : Int) := by omega
  clear hO hM hgr hq1 hA1 hA2 hk1 hX hp2 hq hG hbl1 hbl2 hQold hc0 hf0 hcT0 hin hNG
  go_wp2
  go_loopw [8, 9] (fun mv kv wr => ∃ m k : Nat, mv = .int .i64 m ∧ kv = .int .i64 k ∧ k ≤ m ∧ Outer w wr H1 A2 Q al G n base S ll Z src aw0 m k) (fun _ kv _ => n + 1 - (intOf kv).toNat)
  case atStart => exact ⟨1, 0, by go_num, by go_num, by omega, HO.out⟩
  case round =>
    obtain ⟨m, k, rfl, rfl, hkm, hO⟩ := hrel
    obtain ⟨aw, q, X, hM, hF⟩ := hO
    have hmn := hM.bfs.room
    by_cases hlt : k < m
    · have hkI : (k : Int) < (m : Int) := by omega
      have hyn := hM.bfs.lt k hlt
      have hlo := hM.bfs.lo k hlt
      have hqk := hM.hqx.cell k (by omega)
      rw [hM.same k hlt] at hqk
      have hI : Inner w wr H1 A2 Q al G n base S ll Z src aw0 k (q k) (aw (q k)) m 0 := ⟨aw, q, X, hM, hF, hlt, rfl, rfl, fun x hx => absurd hx (Nat.not_lt_zero _)⟩
      have hay := hM.haw.cell (q k) (by omega)
      obtain ⟨b, off, A, C, hbo, hbH, hrowc0, hrow⟩ := hL (q k) hyn
      cases hbo
      have hrowc := (hM.below.cell (p := ⟨G1, 0 + q k, none⟩) hbH).trans hrowc0
      simp only [Nat.zero_add] at hrowc
      have hAdI : ∀ z : Nat, Adj n ll Z (q k) z → ∃ x, x < ll (q k) ∧ Z (q k) x = z := fun z h => h.2
      clear hrowc0
      generalize hD : aw (q k) = D at hI hay hlo
      generalize hy : q k = y at hI hyn hqk hay hrowc hrow hAdI
      have hlly := hll y hyn
      have HI : Hid _ := hI
      have HA : Hid _ := hAdI
      have HR : Hid _ := hrow
      clear hI hM hF hrow hAdI hL hD hy HO
      have hynI : (y : Int) < (n : Int) := by omega
      have hDb : D + 1 ≤ 2147483647 := by omega
      go_wp2
      go_loopw [8, 66] (fun mv jv wr => ∃ m j : Nat, mv = .int .i64 m ∧ jv = .int .i64 j ∧ j ≤ ll y ∧ Inner w wr H1 A2 Q al G n base S ll Z src aw0 k y D m j) (fun _ jv _ => ll y - (intOf jv).toNat)
      case atStart => exact ⟨m, 0, rfl, by go_num, Nat.zero_le _, HI.out⟩
      case round =>
        obtain ⟨m, j, rfl, rfl, hjl, hI⟩ := hrel
        obtain ⟨aw, q, X, hM, hF, hkm2, hqy, hawy, hdone⟩ := hI
        have hmn := hM.bfs.room
        by_cases hltj : j < ll y
        · have hjI : (j : Int) < (ll y : Int) := by omega
          obtain ⟨b', off', rfl, hbH', hcj⟩ := (RowAt.later (show RowAt H1 w A (ll y) (Z y) from HR.out) hM.below) j hltj
          have hzr := HIN.out y hyn j hltj
          obtain ⟨z, hz⟩ : ∃ z : Nat, Z y j = (z : Int) := ⟨(Z y j).toNat, by omega⟩
          rw [hz] at hcj hzr
          have hzn : z < n := by omega
          have haz := hM.haw.cell z (by omega)
          have haf := hM.haw.free z (by omega)
          have hfz := hM.fits z (by omega)
          have hqm := hM.hqx.cell m (by omega)
          have hqf := hM.hqx.free m (by omega)
          have haz2 : (wr.setCell ⟨Q, m, none⟩ (.int .i32 z)).cell? ⟨A2, z, none⟩ = some (.int .i32 (aw z)) := by rw [World.cell?_setCell_other _ _ _ _ (by intro h; simp at h <;> omega)]; exact haz
          have hAd : Adj n ll Z (q k) z := by rw [hqy]; exact ⟨hyn, j, hltj, hz⟩
          have hmI : (m : Int) < (n : Int) + 1 := by omega
          have hznI : (z : Int) < (al : Int) := by omega
          have HD : Hid _ := hdone
          clear hdone HI
          by_cases hd : D + 1 < aw z
          · have hlow := hM.lower hF hkm2 hAd hzn (by rw [hqy, hawy]; exact hd) hQA hAH hHQ (by omega) hnal hb1
            rw [hqy, hawy] at hlow
            have hIn : Inner w ((wr.setCell ⟨Q, m, none⟩ (.int .i32 z)).setCell ⟨A2, z, none⟩ (.int .i32 (D + 1))) H1 A2 Q al G n base S ll Z src aw0 k y D (m + 1) (j + 1) := by
              obtain ⟨h1, h2, h3, h4, h5⟩ := hlow
              refine ⟨_, _, _, h1, h2, by omega, h5, h4, fun x hx zz hzz => ?_⟩
              by_cases e : x = j
              · subst e
                obtain rfl : zz = z := by rw [hz] at hzz; omega
                rw [upd_same]; exact Int.le_refl _
              · exact Int.le_trans (h3 zz) (HD.out x (by omega) zz hzz)
            have HI2 : Hid _ := hIn
            clear hIn hlow hM hF
            go_wp2
            go_roundw
            case rel => exact ⟨m + 1, j + 1, by go_num, by go_num, by omega, by rw [show min (aw z) (D + 1) = D + 1 from by omega]; exact HI2.out⟩
            case measure => simp [intOf]; omega
          · have hsp := hM.spare (z := z) hF hkm2 hzn hQA hAH hHQ (by omega) hnal
            rw [hqy] at hsp
            have hIn : Inner w ((wr.setCell ⟨Q, m, none⟩ (.int .i32 z)).setCell ⟨A2, z, none⟩ (.int .i32 (aw z))) H1 A2 Q al G n base S ll Z src aw0 k y D m (j + 1) := by
              obtain ⟨h1, h2, h5⟩ := hsp
              refine ⟨_, _, _, h1, h2, hkm2, h5, hawy, fun x hx zz hzz => ?_⟩
              by_cases e : x = j
              · subst e
                obtain rfl : zz = z := by rw [hz] at hzz; omega
                omega
              · exact HD.out x (by omega) zz hzz
            have HI2 : Hid _ := hIn
            clear hIn hsp hM hF
            go_wp2
            go_roundw
            case rel => exact ⟨m, j + 1, rfl, by go_num, by omega, by rw [show min (aw z) (D + 1) = aw z from by omega]; exact HI2.out⟩
            case measure => simp [intOf]; omega
        · have hO : Outer w wr H1 A2 Q al G n base S ll Z src aw0 m (k + 1) := ⟨aw, q, X, hM, front_next hM.bfs hF hkm2 (fun z hz => by
            rw [hqy] at hz ⊢
            rw [hawy]
            obtain ⟨x, hx, e⟩ := HA.out z hz
            exact hdone x (by omega) z e)⟩
          have HO2 : Hid _ := hO
          clear hO hdone hM hF HI
          go_wp2
          go_roundw
          case rel => exact ⟨m, k + 1, rfl, by go_num, by omega, HO2.out⟩
          case measure => simp [intOf]; omega
    · have hkm' : k = m := by omega
      subst hkm'
      have hk := hM.keeps
      have hP : T < w.heap.size ∧ T ≠ A2 ∧ T ≠ Q := ⟨hT, hTA, fun e => hQT e.symm⟩
      have ht4' := (hk.cell (p := ⟨T, 4, none⟩) hP).trans ht4
      have ht1' := (hk.cell (p := ⟨T, 1, none⟩) hP).trans ht1
      have hf4' := (hk.frozen (p := ⟨T, 4, none⟩) hP).trans hf4
      have hpost : WalkLeft w (wr.setCell ⟨T, 4, none⟩ (.slice (some ⟨Q, 0, none⟩) k G)) H1 A2 T QB al n base S ll Z src aw0 qa Q k G aw := by
        obtain ⟨g1, g2, g3⟩ := bfs_end (adj_lt HIN.out) HG.out hM.bfs hF
        refine ⟨by omega, hG63, hM.below.setCell (p := ⟨T, 4, none⟩) hTH _, hHQ, hQA, hold, (hM.hqx.past hQT).pool, hM.haw.past (fun e => hTA e.symm), hM.fits, g1, g2, g3, ?_, World.cell?_setCell_same _ _ _ ht4', ?_⟩
        · rw [World.cell?_setCell_other _ _ _ _ (by intro h; simp at h <;> omega)]; exact ht1'
        · exact (hM.keeps.less (fun b h => ⟨h.1, h.2.1, h.2.2.1⟩)).put (fun e => e.2.2.2 rfl) _
      have HP : Hid _ := hpost
      have hkn : k ≤ G := by omega
      clear hpost hM hF hk HO
      go_wp2
      go_ret
      exact ⟨Q, k, G, aw, rfl, HP.out⟩
end Go.Proofs.Qxb6603240a
