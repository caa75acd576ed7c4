/-
  THE LAW's WALK.
-/
import Derived.Test.Qxb6603144aFind
namespace Go.Proofs.Qxb6603144a
open Go.RowKit

/-- The table as the script goes on: its cache is nil (and then all noughts is what it will be), or a row. -/
def TabSt (B : Nat) (w : World) (T : Nat) (mv : Option Nat) (ea : Option Addr) (en ec : Nat) (by_ : Int) (fl : Nat) (X0 : Nat → Int) : Prop :=
  (TabAt w T mv ea en ec by_ (.slice none 0 0) ∧ fl = 1024 ∧ ∀ k, X0 k = 0) ∨ ∃ F, TabAt w T mv ea en ec by_ (.slice (some ⟨F, 0, none⟩) fl fl) ∧ Row B w T fl en X0 F

theorem find_st (B : Nat) (w0 w : World) (T : Nat) (mv : Option Nat) (N : Nat) (M : ByteArray → Option Int) (ea : Option Addr) (en ec : Nat) (E : Nat → ByteArray) (by_ : Int) (fl : Nat) (X0 : Nat → Int) (s : ByteArray)
    (hM : MapIs B w0 mv N M) (hb : Below B w0 w) (hBT : B ≤ T) (hT : TabSt B w T mv ea en ec by_ fl X0) (hA : StrsAt B w0 ea en E) (hs : s.size ≤ 1048576)
    (hen : en ≤ 4096) (hfl : 1024 ≤ fl) (hfl2 : fl ≤ 65536) (hN : N = en) (hNum : Numbered en E M) :
    Calls Try.prog 22 #[.pointer (some ⟨T, 0, none⟩), .string s] w fun e w' => e = .returned (.tuple #[.int .u64 ((M s).getD 0), .bool (M s).isSome]) ∧ Below B w w' ∧ TabSt B w' T mv ea en ec by_ fl X0 := by
  rcases hT with ⟨h1, rfl, h3⟩ | ⟨F, h1, h2⟩
  · exact (find_nil B w0 w T mv N M ea en ec E by_ X0 s hM hb hBT h1 h3 hA hs hen hN hNum).mono fun e w' ⟨a, b, F, c, d⟩ => ⟨a, b, .inr ⟨F, c, d⟩⟩
  · exact (find_row B w0 w T mv N M ea en ec E by_ F fl X0 s hM hb h1 h2 hA hs hen hfl hfl2 hN hNum).mono fun e w' ⟨a, b, c, d⟩ => ⟨a, b, .inr ⟨F, c, d⟩⟩

theorem zzfind_st (B : Nat) (w0 w : World) (T : Nat) (mv : Option Nat) (N : Nat) (M : ByteArray → Option Int) (ea : Option Addr) (en ec : Nat) (E : Nat → ByteArray) (by_ : Int) (fl : Nat) (X0 : Nat → Int) (s : ByteArray)
    (hM : MapIs B w0 mv N M) (hb : Below B w0 w) (hBT : B ≤ T) (hT : TabSt B w T mv ea en ec by_ fl X0) (hA : StrsAt B w0 ea en E) (hs : s.size ≤ 1048576)
    (hen : en ≤ 4096) (hfl : 1024 ≤ fl) (hfl2 : fl ≤ 65536) (hN : N = en) (hNum : Numbered en E M) :
    Calls Try.prog 17 #[.pointer (some ⟨T, 0, none⟩), .string s] w fun e w' => e = .returned (.tuple #[.int .u64 ((M s).getD 0), .bool (M s).isSome]) ∧ Below B w w' ∧ TabSt B w' T mv ea en ec by_ fl X0 := by
  have HN : Hid (N = en) := hN
  clear hN
  go_enter Try.func17, Try.ntmps17
  go_wp2_with fail
  refine (find_st B w0 _ T mv N M ea en ec E by_ fl X0 s hM hb hBT hT hA hs hen hfl hfl2 HN.out hNum).mono ?_
  rintro e w' ⟨rfl, h1, h2⟩
  go_wp2
  go_ret2
  exact ⟨rfl, h1, h2⟩

theorem tabSt_drewN {B : Nat} {w : World} {T : Nat} {mv : Option Nat} {ea : Option Addr} {en ec : Nat} {by_ : Int} {fl : Nat} {X0 : Nat → Int} (h : TabSt B w T mv ea en ec by_ fl X0) (k : Nat) : TabSt B (w.drewN k) T mv ea en ec by_ fl X0 := by
  rcases h with ⟨h1, h2, h3⟩ | ⟨F, h1, h2⟩
  · exact .inl ⟨h1.drewN k, h2, h3⟩
  · exact .inr ⟨F, h1.drewN k, h2.drewN k⟩

set_option maxRecDepth 100000 in
set_option maxHeartbeats 4000000 in
theorem law_nil (mv : Option Nat) (N : Nat) (M : ByteArray → Option Int) (ea : Option Addr) (en ec : Nat) (E : Nat → ByteArray) (by_ : Int) (qa : Option Addr) (qn qc : Nat) (S : Nat → ByteArray) (w : World)
    (hM : MapIs w.heap.size w mv N M) (hA : StrsAt w.heap.size w ea en E) (hE : ∀ i, i < en → (E i).size ≤ 140737488351232) (hQ : StrsAt w.heap.size w qa qn S) (hS : ∀ i, i < qn → (S i).size ≤ 140737488351232)
    (hen : en ≤ 4096) (hqn : qn ≤ 4096) :
    Calls Try.prog 7 #[.map mv, .slice ea en ec, .int .i64 by_, .slice none 0 0, .slice qa qn qc] w fun e w' => e = .returned (.bool true) ∧ Below w.heap.size w w' := by
  have r1 : ¬ (4096 : Int) < (en : Int) := by omega
  have r3 : ¬ (4096 : Int) < (qn : Int) := by omega
  go_enter Try.func7, Try.ntmps7
  go_wp2
  go_loop [11, 12] (fun t i => ∃ k q : Nat, k ≤ en ∧ i = .int .i64 k ∧ t = .int .i64 q ∧ q ≤ 1048576 ∧ ∀ j, j < k → (E j).size ≤ 1048576) (fun _ i => en - (intOf i).toNat)
  case atStart => exact ⟨0, en * 16 + qn * 16, Nat.zero_le _, rfl, by go_num, by omega, fun j hj => absurd hj (Nat.not_lt_zero _)⟩
  case round =>
    obtain ⟨k, q, hk, rfl, rfl, hq, hall⟩ := hrel
    have HA : Hid (∀ j, j < k → (E j).size ≤ 1048576) := hall
    clear hall
    by_cases hlt : k < en
    · obtain ⟨b, off, hab, hbB, hc⟩ := hA k hlt
      have hsz := hE k hlt
      have hI : (k : Int) < (en : Int) := by omega
      subst hab
      clear hA hE hQ hS hM
      by_cases hgt : (1048576 : Int) < (q : Int) + ((E k).size : Int)
      · go_wp2
        go_ret
        exact ⟨rfl, Below.refl _ _⟩
      · go_wp2
        go_round
        case rel =>
          refine ⟨k + 1, q + (E k).size, by omega, by go_num, by go_num, by omega, fun j hj => ?_⟩
          by_cases e : j = k
          · subst e; omega
          · exact HA.out j (by omega)
        case measure => simp [intOf]; omega
    · have hken : en = k := by omega
      subst hken
      go_wp2
      go_loop [11, 13] (fun t i => ∃ k q : Nat, k ≤ qn ∧ i = .int .i64 k ∧ t = .int .i64 q ∧ q ≤ 1048576 ∧ ∀ j, j < k → (S j).size ≤ 1048576) (fun _ i => qn - (intOf i).toNat)
      case atStart => exact ⟨0, q, Nat.zero_le _, rfl, rfl, hq, fun j hj => absurd hj (Nat.not_lt_zero _)⟩
      case round =>
        obtain ⟨k2, q2, hk2, rfl, rfl, hq2, hall2⟩ := hrel
        have HS : Hid (∀ j, j < k2 → (S j).size ≤ 1048576) := hall2
        clear hall2
        by_cases hlt2 : k2 < qn
        · obtain ⟨b, off, hab, hbB, hc⟩ := hQ k2 hlt2
          have hsz := hS k2 hlt2
          have hI : (k2 : Int) < (qn : Int) := by omega
          subst hab
          clear hA hE hQ hS hM
          by_cases hgt : (1048576 : Int) < (q2 : Int) + ((S k2).size : Int)
          · go_wp2
            go_ret
            exact ⟨rfl, Below.refl _ _⟩
          · go_wp2
            go_round
            case rel =>
              refine ⟨k2 + 1, q2 + (S k2).size, by omega, by go_num, by go_num, by omega, fun j hj => ?_⟩
              by_cases e : j = k2
              · subst e; omega
              · exact HS.out j (by omega)
            case measure => simp [intOf]; omega
        · have hkqn : qn = k2 := by omega
          subst hkqn
          have r4 : ¬ (1048576 : Int) < (q2 : Int) := by omega
          clear hlt2 hlt hE hS
          go_wp2_with fail
          refine (consistent_any _ mv N M ea en ec E _ hM hA HA.out hen).mono ?_
          rintro e wz ⟨⟨r, rfl, hr⟩, rfl⟩
          cases r
          · go_wp2
            go_ret
            exact ⟨rfl, Below.refl _ _⟩
          · obtain ⟨hN, hNum⟩ := hr rfl
            have HN : Hid (N = en) := hN
            clear hr hN
            go_wp2_with fail
            refine (copy_nil _).mono ?_
            rintro e wz ⟨rfl, rfl⟩
            go_wp2_with fail
            refine (newTable_any mv ea en ec by_ none 0 0 _).mono ?_
            rintro e w1 ⟨rfl, hT1, hb1, hs1⟩
            have hSt : TabSt wz.heap.size w1 wz.heap.size mv ea en ec by_ 1024 (fun _ => 0) := .inl ⟨hT1, rfl, fun _ => rfl⟩
            clear hT1 hs1
            go_wp2
            go_loopw [16] (fun i wr => ∃ j : Nat, j ≤ qn ∧ i = .int .i64 j ∧ Below wz.heap.size wz wr ∧ TabSt wz.heap.size wr wz.heap.size mv ea en ec by_ 1024 (fun _ => 0)) (fun i _ => qn - (intOf i).toNat)
            case atStart => exact ⟨0, Nat.zero_le _, rfl, hb1, hSt⟩
            case round =>
              obtain ⟨j, hj, rfl, hbr, hTr⟩ := hrel
              by_cases hlt : j < qn
              · obtain ⟨b, off, hab, hbB, hc⟩ := hQ j hlt
                have hsz := HS.out j hlt
                have hI : (j : Int) < (qn : Int) := by omega
                subst hab
                have hcr := (hbr.cell (p := ⟨b, off + j, none⟩) hbB).trans hc
                obtain ⟨v, hv⟩ : ∃ v, (M (S j)).getD 0 = v := ⟨_, rfl⟩
                obtain ⟨ob, hob⟩ : ∃ ob, (M (S j)).isSome = ob := ⟨_, rfl⟩
                have Hv : Hid ((M (S j)).getD 0 = v) := hv
                have Hob : Hid ((M (S j)).isSome = ob) := hob
                have hvv : (v != v) = false := by simp
                have hoo : (ob != ob) = false := by simp
                clear hv hob hSt hb1 hQ
                go_wp2_with fail
                refine (zzfind_st _ wz _ wz.heap.size mv N M ea en ec E by_ 1024 (fun _ => 0) (S j) hM hbr (Nat.le_refl _) hTr hA hsz hen (by omega) (by omega) HN.out hNum).mono ?_
                rintro e w2 ⟨he, hb2, hT2⟩
                rw [Hv.out, Hob.out] at he
                subst he
                have hb2' := hbr.trans hb2
                have hc2 := (hb2'.cell (p := ⟨b, off + j, none⟩) hbB).trans hc
                clear hcr hbr hTr hb2
                go_wp2_with fail
                refine (search_any wz.heap.size ea en ec E (S j) _ hen (hA.later hb2') HA.out hsz).mono ?_
                rintro e w3 ⟨hsc, k3, rfl⟩
                have he := scan_map hM HN.out hNum hsc
                rw [Hv.out, Hob.out] at he
                subst he
                have hb3 := hb2'.trans (below_drewN _ _ k3)
                have hc3 := (hb3.cell (p := ⟨b, off + j, none⟩) hbB).trans hc
                have hT3 := tabSt_drewN hT2 k3
                clear hc2 hb2' hT2 hsc
                go_wp2_with fail
                refine (zzfind_st _ wz _ wz.heap.size mv N M ea en ec E by_ 1024 (fun _ => 0) (S j) hM hb3 (Nat.le_refl _) hT3 hA hsz hen (by omega) (by omega) HN.out hNum).mono ?_
                rintro e w4 ⟨he, hb4, hT4⟩
                rw [Hv.out, Hob.out] at he
                subst he
                have hb4' := hb3.trans hb4
                clear hc3 hb3 hT3 hb4
                go_wp2
                go_roundw
                case rel => exact ⟨j + 1, by omega, by go_num, hb4', hT4⟩
                case measure => simp [intOf]; omega
              · have hjq : qn = j := by omega
                subst hjq
                clear hSt hb1 hlt
                rcases hTr with ⟨hT5, _, _⟩ | ⟨F, hT5, hR5⟩
                · have hc5 := hT5.c3
                  clear hT5
                  go_wp2_with fail
                  refine (found_any wz.heap.size none 0 0 _ hc5).mono ?_
                  rintro e w5 ⟨rfl, hw5⟩
                  subst hw5
                  go_wp2
                  refine wp_loop_rounds 1 ?_
                  rw [rounds_succ]
                  go_wp2
                  go_ret
                  exact ⟨rfl, hbr⟩
                · have hc5 := hT5.c3
                  clear hT5
                  go_wp2_with fail
                  refine (found_any wz.heap.size (some ⟨F, 0, none⟩) 1024 1024 _ hc5).mono ?_
                  rintro e w5 ⟨rfl, hw5⟩
                  subst hw5
                  go_wp2
                  go_loop [24] (fun i => ∃ k : Nat, k ≤ 1024 ∧ i = .int .i64 k) (fun i => 1024 - (intOf i).toNat)
                  case atStart => exact ⟨0, Nat.zero_le _, rfl⟩
                  case round =>
                    obtain ⟨k, hk, rfl⟩ := hrel
                    by_cases hlt : k < 1024
                    · obtain ⟨x, hcx, _, hx0, hx1, hxo⟩ := hR5.cells k hlt
                      have hI : (k : Int) < 1024 := by omega
                      clear hR5
                      by_cases hx : x = 0
                      · subst hx
                        go_wp2
                        go_round
                        case rel => exact ⟨k + 1, by omega, by go_num⟩
                        case measure => simp [intOf]; omega
                      · have hxb : (x != 0) = true := by rw [bne_iff_ne]; exact hx
                        have hxe : (x == 0) = false := by rw [beq_eq_false_iff_ne]; exact hx
                        have hx2 : 1 ≤ x := by omega
                        have hx3 : x ≤ (en : Int) := by rcases hxo with h | h <;> omega
                        have hx4 : ¬ (en : Int) ≤ x - 1 := by omega
                        clear hx hxo
                        go_wp2
                        go_round
                        case rel => exact ⟨k + 1, by omega, by go_num⟩
                        case measure => simp [intOf]; omega
                    · go_wp2
                      go_ret
                      exact ⟨rfl, hbr⟩

set_option maxRecDepth 100000 in
set_option maxHeartbeats 4000000 in
theorem law_some (mv : Option Nat) (N : Nat) (M : ByteArray → Option Int) (ea : Option Addr) (en ec : Nat) (E : Nat → ByteArray) (by_ : Int) (fd : Addr) (fl fc : Nat) (X0 : Nat → Int) (qa : Option Addr) (qn qc : Nat) (S : Nat → ByteArray) (w : World)
    (hM : MapIs w.heap.size w mv N M) (hA : StrsAt w.heap.size w ea en E) (hE : ∀ i, i < en → (E i).size ≤ 140737488351232) (hQ : StrsAt w.heap.size w qa qn S) (hS : ∀ i, i < qn → (S i).size ≤ 140737488351232)
    (hen : en ≤ 4096) (hqn : qn ≤ 4096) (hfl : fl ≤ 65536) (hF : CellsAt w.heap.size w (some fd) fl X0) (hX : ∀ i, i < fl → 0 ≤ X0 i ∧ X0 i ≤ 4294967295) :
    Calls Try.prog 7 #[.map mv, .slice ea en ec, .int .i64 by_, .slice (some fd) fl fc, .slice qa qn qc] w fun e w' => e = .returned (.bool true) ∧ Below w.heap.size w w' := by
  have r1 : ¬ (4096 : Int) < (en : Int) := by omega
  have r2 : ¬ (65536 : Int) < (fl : Int) := by omega
  have r3 : ¬ (4096 : Int) < (qn : Int) := by omega
  go_enter Try.func7, Try.ntmps7
  go_wp2
  go_loop [11, 12] (fun t i => ∃ k q : Nat, k ≤ en ∧ i = .int .i64 k ∧ t = .int .i64 q ∧ q ≤ 1048576 ∧ ∀ j, j < k → (E j).size ≤ 1048576) (fun _ i => en - (intOf i).toNat)
  case atStart => exact ⟨0, en * 16 + fl * 4 + qn * 16, Nat.zero_le _, rfl, by go_num, by omega, fun j hj => absurd hj (Nat.not_lt_zero _)⟩
  case round =>
    obtain ⟨k, q, hk, rfl, rfl, hq, hall⟩ := hrel
    have HA : Hid (∀ j, j < k → (E j).size ≤ 1048576) := hall
    clear hall
    by_cases hlt : k < en
    · obtain ⟨b, off, hab, hbB, hc⟩ := hA k hlt
      have hsz := hE k hlt
      have hI : (k : Int) < (en : Int) := by omega
      subst hab
      clear hA hE hQ hS hM hF hX
      by_cases hgt : (1048576 : Int) < (q : Int) + ((E k).size : Int)
      · go_wp2
        go_ret
        exact ⟨rfl, Below.refl _ _⟩
      · go_wp2
        go_round
        case rel =>
          refine ⟨k + 1, q + (E k).size, by omega, by go_num, by go_num, by omega, fun j hj => ?_⟩
          by_cases e : j = k
          · subst e; omega
          · exact HA.out j (by omega)
        case measure => simp [intOf]; omega
    · have hken : en = k := by omega
      subst hken
      go_wp2
      go_loop [11, 13] (fun t i => ∃ k q : Nat, k ≤ qn ∧ i = .int .i64 k ∧ t = .int .i64 q ∧ q ≤ 1048576 ∧ ∀ j, j < k → (S j).size ≤ 1048576) (fun _ i => qn - (intOf i).toNat)
      case atStart => exact ⟨0, q, Nat.zero_le _, rfl, rfl, hq, fun j hj => absurd hj (Nat.not_lt_zero _)⟩
      case round =>
        obtain ⟨k2, q2, hk2, rfl, rfl, hq2, hall2⟩ := hrel
        have HS : Hid (∀ j, j < k2 → (S j).size ≤ 1048576) := hall2
        clear hall2
        by_cases hlt2 : k2 < qn
        · obtain ⟨b, off, hab, hbB, hc⟩ := hQ k2 hlt2
          have hsz := hS k2 hlt2
          have hI : (k2 : Int) < (qn : Int) := by omega
          subst hab
          clear hA hE hQ hS hM hF hX
          by_cases hgt : (1048576 : Int) < (q2 : Int) + ((S k2).size : Int)
          · go_wp2
            go_ret
            exact ⟨rfl, Below.refl _ _⟩
          · go_wp2
            go_round
            case rel =>
              refine ⟨k2 + 1, q2 + (S k2).size, by omega, by go_num, by go_num, by omega, fun j hj => ?_⟩
              by_cases e : j = k2
              · subst e; omega
              · exact HS.out j (by omega)
            case measure => simp [intOf]; omega
        · have hkqn : qn = k2 := by omega
          subst hkqn
          have r4 : ¬ (1048576 : Int) < (q2 : Int) := by omega
          clear hlt2 hlt hE hS
          go_wp2_with fail
          refine (consistent_any _ mv N M ea en ec E _ hM hA HA.out hen).mono ?_
          rintro e wz ⟨⟨r, rfl, hr⟩, rfl⟩
          cases r
          · go_wp2
            go_ret
            exact ⟨rfl, Below.refl _ _⟩
          · obtain ⟨hN, hNum⟩ := hr rfl
            have HN : Hid (N = en) := hN
            clear hr hN
            by_cases hsmall : (fl : Int) < 1024
            · go_wp2
              go_ret
              exact ⟨rfl, Below.refl _ _⟩
            go_wp2_with fail
            refine (copy_some fd fl fc X0 _ hfl hF).mono ?_
            rintro e w1 ⟨rfl, hbc, hs1, hX1⟩
            have HX1 : Hid (∀ i, i < fl → w1.cell? ⟨wz.heap.size, i, none⟩ = some (.int .u32 (X0 i)) ∧ w1.frozen? ⟨wz.heap.size, i, none⟩ = false) := hX1
            have hlt1 : wz.heap.size < w1.heap.size := by omega
            clear hs1 hX1
            go_wp2_with fail
            refine (newTable_any mv ea en ec by_ (some ⟨wz.heap.size, 0, none⟩) fl fl _).mono ?_
            rintro e w2 ⟨rfl, hT1, hb2, hs2⟩
            have hR2 : Row wz.heap.size w2 w1.heap.size fl en X0 wz.heap.size := ⟨Nat.le_refl _, by omega, by omega, fun k hk => ⟨X0 k, (hb2.cell (p := ⟨wz.heap.size, k, none⟩) hlt1).trans (HX1.out k hk).1, (hb2.frozen (p := ⟨wz.heap.size, k, none⟩) hlt1).trans (HX1.out k hk).2, (hX k hk).1, (hX k hk).2, .inl rfl⟩⟩
            have hSt : TabSt wz.heap.size w2 w1.heap.size mv ea en ec by_ fl X0 := .inr ⟨_, hT1, hR2⟩
            have hb1 : Below wz.heap.size wz w2 := hbc.trans (hb2.mono (by omega))
            have hfl1 : 1024 ≤ fl := by omega
            clear hT1 hs2 hR2 HX1 hbc hb2 hX
            generalize w1.heap.size = TT at *
            go_wp2
            go_loopw [16] (fun i wr => ∃ j : Nat, j ≤ qn ∧ i = .int .i64 j ∧ Below wz.heap.size wz wr ∧ TabSt wz.heap.size wr TT mv ea en ec by_ fl X0) (fun i _ => qn - (intOf i).toNat)
            case atStart => exact ⟨0, Nat.zero_le _, rfl, hb1, hSt⟩
            case round =>
              obtain ⟨j, hj, rfl, hbr, hTr⟩ := hrel
              by_cases hlt : j < qn
              · obtain ⟨b, off, hab, hbB, hc⟩ := hQ j hlt
                have hsz := HS.out j hlt
                have hI : (j : Int) < (qn : Int) := by omega
                subst hab
                have hcr := (hbr.cell (p := ⟨b, off + j, none⟩) hbB).trans hc
                obtain ⟨v, hv⟩ : ∃ v, (M (S j)).getD 0 = v := ⟨_, rfl⟩
                obtain ⟨ob, hob⟩ : ∃ ob, (M (S j)).isSome = ob := ⟨_, rfl⟩
                have Hv : Hid ((M (S j)).getD 0 = v) := hv
                have Hob : Hid ((M (S j)).isSome = ob) := hob
                have hvv : (v != v) = false := by simp
                have hoo : (ob != ob) = false := by simp
                clear hv hob hSt hb1 hQ
                go_wp2_with fail
                refine (zzfind_st _ wz _ TT mv N M ea en ec E by_ fl X0 (S j) hM hbr (by omega) hTr hA hsz hen hfl1 hfl HN.out hNum).mono ?_
                rintro e w2 ⟨he, hb2, hT2⟩
                rw [Hv.out, Hob.out] at he
                subst he
                have hb2' := hbr.trans hb2
                have hc2 := (hb2'.cell (p := ⟨b, off + j, none⟩) hbB).trans hc
                clear hcr hbr hTr hb2
                go_wp2_with fail
                refine (search_any wz.heap.size ea en ec E (S j) _ hen (hA.later hb2') HA.out hsz).mono ?_
                rintro e w3 ⟨hsc, k3, rfl⟩
                have he := scan_map hM HN.out hNum hsc
                rw [Hv.out, Hob.out] at he
                subst he
                have hb3 := hb2'.trans (below_drewN _ _ k3)
                have hc3 := (hb3.cell (p := ⟨b, off + j, none⟩) hbB).trans hc
                have hT3 := tabSt_drewN hT2 k3
                clear hc2 hb2' hT2 hsc
                go_wp2_with fail
                refine (zzfind_st _ wz _ TT mv N M ea en ec E by_ fl X0 (S j) hM hb3 (by omega) hT3 hA hsz hen hfl1 hfl HN.out hNum).mono ?_
                rintro e w4 ⟨he, hb4, hT4⟩
                rw [Hv.out, Hob.out] at he
                subst he
                have hb4' := hb3.trans hb4
                clear hc3 hb3 hT3 hb4
                go_wp2
                go_roundw
                case rel => exact ⟨j + 1, by omega, by go_num, hb4', hT4⟩
                case measure => simp [intOf]; omega
              · have hjq : qn = j := by omega
                subst hjq
                clear hSt hb1 hlt
                rcases hTr with ⟨hT5, _, _⟩ | ⟨F, hT5, hR5⟩
                · have hc5 := hT5.c3
                  clear hT5
                  go_wp2_with fail
                  refine (found_any TT none 0 0 _ hc5).mono ?_
                  rintro e w5 ⟨rfl, hw5⟩
                  subst hw5
                  go_wp2
                  refine wp_loop_rounds 1 ?_
                  rw [rounds_succ]
                  go_wp2
                  go_ret
                  exact ⟨rfl, hbr⟩
                · have hc5 := hT5.c3
                  clear hT5
                  go_wp2_with fail
                  refine (found_any TT (some ⟨F, 0, none⟩) fl fl _ hc5).mono ?_
                  rintro e w5 ⟨rfl, hw5⟩
                  subst hw5
                  go_wp2
                  go_loop [24] (fun i => ∃ k : Nat, k ≤ fl ∧ i = .int .i64 k) (fun i => fl - (intOf i).toNat)
                  case atStart => exact ⟨0, Nat.zero_le _, rfl⟩
                  case round =>
                    obtain ⟨k, hk, rfl⟩ := hrel
                    by_cases hlt : k < fl
                    · obtain ⟨x, hcx, _, hx0, hx1, hxo⟩ := hR5.cells k hlt
                      obtain ⟨b, off, hab, hbB, hc⟩ := hF k hlt
                      have hfd : fd = ⟨b, off, none⟩ := Option.some.inj hab
                      subst hfd
                      have hcf := (hbr.cell (p := ⟨b, off + k, none⟩) hbB).trans hc
                      have hI : (k : Int) < (fl : Int) := by omega
                      clear hR5 hF hab hc
                      by_cases hx : x = X0 k
                      · subst hx
                        have hxb : (X0 k != X0 k) = false := by simp
                        go_wp2
                        go_round
                        case rel => exact ⟨k + 1, by omega, by go_num⟩
                        case measure => simp [intOf]; omega
                      · have hxb : (x != X0 k) = true := by rw [bne_iff_ne]; exact hx
                        have hx2 : 1 ≤ x := by rcases hxo with h | h <;> omega
                        have hxe : (x == 0) = false := by rw [beq_eq_false_iff_ne]; omega
                        have hx3 : x ≤ (en : Int) := by rcases hxo with h | h <;> omega
                        have hx4 : ¬ (en : Int) ≤ x - 1 := by omega
                        clear hx hxo
                        go_wp2
                        go_round
                        case rel => exact ⟨k + 1, by omega, by go_num⟩
                        case measure => simp [intOf]; omega
                    · go_wp2
                      go_ret
                      exact ⟨rfl, hbr⟩

end Go.Proofs.Qxb6603144a
