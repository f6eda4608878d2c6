/-
  The law on a group put into a list, walked.
-/
import Derived.Test.Qxb6617321aJoinLaw
namespace Go.Proofs.Qxb6617321a
open Go.RowKit

/-- A group put in at p. -/
def putV (f : Nat → Value) (p : Nat) (g : Value) (j : Nat) : Value := if j < p then f j else if j = p then g else f (j - 1)
def putL (f : Nat → List Row) (p : Nat) (g : List Row) (j : Nat) : List Row := if j < p then f j else if j = p then g else f (j - 1)

theorem Held.put {w : World} {b n p : Nat} {f : Nat → Value} {g : Value} {L : Nat → List Row} {l : List Row} (h : Held w b n f L) (hg : Grp w g l) (hl : (l.length : Int) ≤ 1048576) (hp : p ≤ n) :
    (∀ j, j < n + 1 → Grp w (putV f p g j) (putL L p l j)) ∧ (∀ j, j < n + 1 → ((putL L p l j).length : Int) ≤ 1048576) ∧ IsSl (putV f p g) := by
  refine ⟨fun j hj => ?_, fun j hj => ?_, fun j => ?_⟩
  · unfold putV putL
    by_cases e1 : j < p
    · rw [if_pos e1, if_pos e1]; exact h.grps j (by omega)
    · rw [if_neg e1, if_neg e1]
      by_cases e2 : j = p
      · rw [if_pos e2, if_pos e2]; exact hg
      · rw [if_neg e2, if_neg e2]; exact h.grps _ (by omega)
  · unfold putL
    by_cases e1 : j < p
    · rw [if_pos e1]; exact h.lens j (by omega)
    · rw [if_neg e1]
      by_cases e2 : j = p
      · rw [if_pos e2]; exact hl
      · rw [if_neg e2]; exact h.lens _ (by omega)
  · unfold putV
    split
    · exact h.sl j
    · split
      · obtain ⟨a, c, e⟩ := hg.shape
        exact ⟨a, _, c, e⟩
      · exact h.sl _

theorem put_drop {f : Nat → Value} {g : Value} {n p : Nat} : ∀ j, j < n → f j = without (putV f p g) (n + 1) p j := fun j hj => by
  unfold without putV
  by_cases e1 : j < p
  · simp only [e1, if_true]
  · have a1 : j + 1 < n + 1 := by omega
    have a2 : ¬ j + 1 < p := by omega
    have a3 : ¬ j + 1 = p := by omega
    simp only [e1, a1, a2, a3, if_true, if_false]
    rfl
theorem put_cutB {f : Nat → Value} {g : Value} {n p ix : Nat} (h1 : ix < p) (h2 : p ≤ n) : ∀ j, j < n → putV (without f n ix) (p - 1) g j = without (putV f p g) (n + 1) ix j := fun j hj => by
  unfold putV without
  by_cases e1 : j < ix
  · have a1 : j < p - 1 := by omega
    have a2 : j < p := by omega
    simp only [e1, a1, a2, if_true]
  · have a0 : j + 1 < n + 1 := by omega
    by_cases e2 : j < p - 1
    · have a1 : j + 1 < n := by omega
      have a2 : j + 1 < p := by omega
      simp only [e1, e2, a0, a1, a2, if_true, if_false]
    · by_cases e3 : j = p - 1
      · have a1 : ¬ j + 1 < p := by omega
        have a2 : j + 1 = p := by omega
        rw [if_neg e2, if_pos e3, if_neg e1, if_pos a0]
        show g = if j + 1 < p then f (j + 1) else if j + 1 = p then g else f (j + 1 - 1)
        rw [if_neg a1, if_pos a2]
      · have a1 : ¬ j + 1 < p := by omega
        have a2 : ¬ j + 1 = p := by omega
        have a3 : ¬ j - 1 < ix := by omega
        have a4 : j - 1 + 1 < n := by omega
        simp only [e1, e2, e3, a0, a1, a2, a3, a4, if_true, if_false]
        rw [show j - 1 + 1 = j by omega, show j + 1 - 1 = j by omega]
theorem put_cutC {f : Nat → Value} {g : Value} {n p ix : Nat} (h1 : p ≤ ix) (_h2 : ix < n) : ∀ j, j < n → putV (without f n ix) p g j = without (putV f p g) (n + 1) (ix + 1) j := fun j hj => by
  unfold putV without
  by_cases e1 : j < p
  · have a1 : j < ix := by omega
    have a2 : j < ix + 1 := by omega
    simp only [e1, a1, a2, if_true]
  · by_cases e2 : j = p
    · have a2 : j < ix + 1 := by omega
      rw [if_neg e1, if_pos e2, if_pos a2]
      show g = if j < p then f j else if j = p then g else f (j - 1)
      rw [if_neg e1, if_pos e2]
    · by_cases e3 : j - 1 < ix
      · have a2 : j < ix + 1 := by omega
        simp only [e1, e2, e3, a2, if_true, if_false]
      · have a1 : ¬ j < ix + 1 := by omega
        have a2 : j - 1 + 1 < n := by omega
        have a3 : j + 1 < n + 1 := by omega
        have a4 : ¬ j + 1 < p := by omega
        have a5 : ¬ j + 1 = p := by omega
        simp only [e1, e2, e3, a1, a2, a3, a4, a5, if_true, if_false]
        rw [show j - 1 + 1 = j by omega, show j + 1 - 1 = j by omega]

set_option maxRecDepth 100000 in
set_option maxHeartbeats 4000000 in
theorem insert_law (a : Option Addr) (n c : Nat) (lx : List (List Row)) (pz : Int) (a' : Option Addr) (m c' : Nat) (lh : List Row) (w : World) (hA : InR w (.slice a n c) lx) (hB : InG w (.slice a' m c') lh)
    (hn : n = lx.length) (ma : (lx.length : Int) ≤ 9223372036854775807) (msa : ∀ i, i < lx.length → ((lx.getD i []).length : Int) ≤ 9223372036854775807) (mb : (lh.length : Int) ≤ 9223372036854775807) :
    Calls Try.prog 4 #[.slice a n c, .int .i64 pz, .slice a' m c'] w fun e w' => e = .returned (.bool true) ∧ Below w.heap.size w w' := by
  have HA := hideN hA
  have HB := hideN hB
  have HN := hideN hn
  have MA := hideN ma
  have MSA := hideN msa
  have MB := hideN mb
  clear hA hB hn ma msa mb
  go_enter Try.func4, Try.ntmps4
  go_wp2_with fail
  refine (bytesI a n c lx pz a' m c' lh w HA.out HB.out).mono ?_
  rintro e w' ⟨r, rfl, hw⟩
  rw [hw]
  clear hw w'
  cases r
  · go_wp2_with fail
    go_ret
    exact ⟨rfl, Below.refl _ _⟩
  go_wp2_with fail
  refine (addR_any 0 HA.out (by omega) (by omega) MA.out MSA.out).mono ?_
  rintro e w' ⟨t, rfl, hw, ht0, ht⟩
  rw [hw]
  have HTA := hideN ht
  clear hw w' ht
  by_cases ht1 : (1048576 : Int) < t
  · go_wp2_with fail
    go_ret
    exact ⟨rfl, Below.refl _ _⟩
  have FA := hideN (HTA.out (by omega))
  have e1 : decide ((1048576 : Int) < t) = false := by simp; omega
  clear HTA
  go_wp2_with fail
  refine (addG_any t HB.out ht0 (by omega) MB.out).mono ?_
  rintro e w' ⟨t2, rfl, hw, ht20, ht2⟩
  rw [hw]
  have HTB := hideN ht2
  clear hw w' ht2
  by_cases ht3 : (1048576 : Int) < t2
  · go_wp2_with fail
    go_ret
    exact ⟨rfl, Below.refl _ _⟩
  have FB := hideN (HTB.out (by omega))
  have e2 : decide ((1048576 : Int) < t2) = false := by simp; omega
  have hn1 : (n : Int) ≤ 1048576 := by rw [HN.out]; exact FA.out.1
  clear HTB
  by_cases hp0 : pz < 0
  · go_wp2_with fail
    go_ret
    exact ⟨rfl, Below.refl _ _⟩
  by_cases hp1 : (n : Int) < pz
  · go_wp2_with fail
    go_ret
    exact ⟨rfl, Below.refl _ _⟩
  obtain ⟨p, rfl⟩ := Int.eq_ofNat_of_zero_le (show 0 ≤ pz by omega)
  have hp : p ≤ n := by omega
  have e3 : decide ((p : Int) < 0) = false := by simp
  have e4 : decide (n < p) = false := by simp; omega
  clear hp0 hp1
  go_wp2_with fail
  refine (build_any a n c lx w HN.out FA.out HA.out).mono ?_
  rintro e w1 ⟨va, hva, rfl, hBa⟩
  have Ha1 := hideN (hBa.held hva HN.out FA.out)
  have B1 := hideN hBa.below
  clear hBa hva
  generalize (fun j => va.getD j nilV) = fx at Ha1
  go_wp2_with fail
  refine (buildG_any (HB.out.below B1.out) FB.out).mono ?_
  rintro e w2 ⟨gh, rfl, hG2, hb12⟩
  have G2 := hideN hG2
  have Ha2 := hideN (Ha1.out.below hb12)
  have B2 : Hid (Below w.heap.size w w2) := B1.out.trans (hb12.mono B1.out.size)
  obtain ⟨ga, gc, hgh⟩ := hG2.shape
  have HGH := hideN hgh
  rw [hgh] at G2 ⊢
  clear hG2 hb12 hgh HGH
  obtain ⟨gm, hgm⟩ : ∃ gm, gm = lh.length := ⟨_, rfl⟩
  rw [← hgm] at G2 ⊢
  clear hgm
  go_wp2_with fail
  refine (insert_any w.heap.size n n p fx ga gm gc w2 hn1 hp Ha2.out.sl Ha2.out.cells).mono ?_
  rintro e w3 ⟨rfl, hF3⟩
  have F3 : Hid (Fill w2 w3 (n + 1) (putV fx p (.slice ga gm gc))) := hF3
  have B23 := hideN hF3.below
  have Ha3 := hideN (Ha2.out.below hF3.below)
  have G3 := hideN (G2.out.below hF3.below)
  clear hF3
  obtain ⟨hc1, hc2, hc3⟩ := Ha3.out.put G3.out FB.out hp
  have HC1 := hideN hc1
  have HC2 := hideN hc2
  have HC3 := hideN hc3
  clear hc1 hc2 hc3
  obtain ⟨i, hi1, hi2⟩ := dropped (put (scs lx) p (score lh)) (fun k => by unfold put; split; exact scs_ge _ _; split; exact score_ge _; exact scs_ge _ _) (n + 1)
  have HI1 := hideN hi1
  have HI2 := hideN (hi2 (by omega))
  obtain ⟨ix, hix1, hix2⟩ := dropped (scs lx) (scs_ge lx) n
  have HIX1 := hideN hix1
  have HIX2 := hideN hix2
  clear hi1 hi2 hix1 hix2
  go_wp2_with fail
  refine (zwl_any w2.heap.size (n + 1) i (putV fx p (.slice ga gm gc)) (putL (fun j => lx.getD j []) p lh) (put (scs lx) p (score lh)) w3 (by omega) HC3.out F3.out.row HC1.out HC2.out (fun j _ => by unfold put putL scs; split; rfl; split; rfl; rfl) HI1.out).mono ?_
  rintro e w4 ⟨rfl, hr4, hg4⟩
  have hb24 := below_own B23.out hg4
  have RJ4 := hideN hr4
  have Ha4 := hideN (Ha2.out.below hb24)
  have G4 := hideN (G2.out.below hb24)
  have B4 : Hid (Below w.heap.size w w4) := B2.out.trans (hb24.mono B2.out.size)
  clear hr4 hg4 hb24 F3 B23 Ha3 G3 HC1 HC2 HI1
  rw [Nat.add_sub_cancel]
  go_wp2_with fail
  refine (clone_any w.heap.size n n fx w4 (by omega) Ha4.out.sl Ha4.out.cells).mono ?_
  rintro e w5 ⟨rfl, hF5⟩
  have F5 := hideN hF5
  have Ha5 := hideN (Ha4.out.below hF5.below)
  clear hF5
  go_wp2_with fail
  refine (zwl_any w4.heap.size n ix fx (fun j => lx.getD j []) (scs lx) w5 (by omega) Ha5.out.sl F5.out.row Ha5.out.grps Ha5.out.lens (fun j _ => rfl) HIX1.out).mono ?_
  rintro e w6 ⟨rfl, hr6, hg6⟩
  have hb46 := below_own F5.out.below hg6
  have RX6 := hideN hr6
  have RJ6 := hideN (RJ4.out.of_block (hb46.block _ RJ4.out.lt))
  have Ha6 := hideN (Ha4.out.below hb46)
  have G6 := hideN (G4.out.below hb46)
  have B6 : Hid (Below w.heap.size w w6) := B4.out.trans (hb46.mono B4.out.size)
  clear hr6 hg6 hb46 F5 Ha5
  go_wp2_with fail
  refine (score_any (HB.out.below B6.out) FB.out).mono ?_
  rintro e w7 ⟨rfl, hd7⟩
  have D7 : Hid (Draws w6 w7) := hd7
  have B7 : Hid (Below w.heap.size w w7) := B6.out.trans (D7.out.below.mono B6.out.size)
  clear hd7
  go_wp2_with fail
  refine (max_head (p := p) (HA.out.below B7.out) FA.out (by have := HN.out; omega)).mono ?_
  rintro e w8 ⟨rfl, hd8⟩
  have B68 : Hid (Below w6.heap.size w6 w8) := D7.out.below.trans (hd8.below.mono D7.out.below.size)
  have B8 : Hid (Below w.heap.size w w8) := B6.out.trans (B68.out.mono B6.out.size)
  clear hd8 D7 B7
  go_wp2_with fail
  refine (max_tail (HA.out.below B8.out) FA.out HN.out hp).mono ?_
  rintro e w9 ⟨rfl, hd9⟩
  have B69 : Hid (Below w6.heap.size w6 w9) := B68.out.trans (hd9.below.mono B68.out.size)
  have RJ9 := hideN (RJ6.out.of_block (B69.out.block _ RJ6.out.lt))
  have RX9 := hideN (RX6.out.of_block (B69.out.block _ RX6.out.lt))
  have Ha9 := hideN (Ha6.out.below B69.out)
  have G9 := hideN (G6.out.below B69.out)
  have B9 : Hid (Below w.heap.size w w9) := B6.out.trans (B69.out.mono B6.out.size)
  clear hd9 B68 B8 B6 B69 RJ6 RX6 Ha6 G6 RJ4 Ha4 G4 B4 Ha2 G2 B2 Ha1 B1 HA HB
  have hin : i < n + 1 := HI2.out.1
  by_cases hD : mxTo (scs lx) 0 p ≤ score lh ∧ mxTo (scs lx) p (n - p) < score lh
  · obtain ⟨hD1, hD2⟩ := hD
    have CUT : Hid (∀ j, j < n → fx j = without (putV fx p (.slice ga gm gc)) (n + 1) i j) := by
      have e := lastMax_unique HI2.out (put_at hp hD1 hD2)
      rw [e]
      exact put_drop
    clear HI2
    generalize mxTo (scs lx) 0 p = pre at hD1 ⊢
    generalize mxTo (scs lx) p (n - p) = post at hD2 ⊢
    generalize score lh = sh at hD1 hD2 ⊢
    have RJ11 := RJ9
    have Ha11 := Ha9
    have G11 := G9
    have B11 := B9
    obtain ⟨hc1, hc2, -⟩ := Ha11.out.put G11.out FB.out hp
    have HC1 := hideN hc1
    have HC2 := hideN hc2
    clear hc1 hc2
    have W11 := hideN Ha9.out.cells
    go_wp2_with fail
    refine (same_any w2.heap.size n (n + 1) w.heap.size n (without (putV fx p (.slice ga gm gc)) (n + 1) i) (withoutL (putL (fun j => lx.getD j []) p lh) i) w9 (by omega) (fun j hj => RJ11.out.cell (by omega)) (W11.out.congr CUT.out) (without_grps HC1.out) (without_lens HC2.out)).mono ?_
    rintro e w12 ⟨rfl, hd12⟩
    have RJ12 := hideN (hd12.row RJ11.out)
    have D12 := hideN hd12
    clear hd12
    have Ha12 := hideN (Ha11.out.below D12.out.below)
    have G12 := hideN (G11.out.below D12.out.below)
    have B12 : Hid (Below w.heap.size w w12) := B11.out.trans (D12.out.below.mono B11.out.size)
    clear Ha11 G11 RJ11 D12
    have cl : w12.cell? ⟨w2.heap.size, n, none⟩ = some (.slice none 0 0) := by
      have := RJ12.out.cell (show n < n + 1 by omega)
      rw [this]
      exact congrArg some (without_last (n := n + 1) hin)
    have kn := fun (w : World) => run_neq_slice_nil_any (P := Try.prog) w 32 42 none 0 0 0 0 Try.underlying32
    have hz1 : (n : Int) < ((n + 1 : Nat) : Int) := by omega
    have hz2 : (n : Int) ≤ ((n + 1 : Nat) : Int) := by omega
    go_wp2_with fail
    obtain ⟨hd1, hd2, -⟩ := Ha12.out.put G12.out FB.out hp
    refine (same_any w2.heap.size n (n + 1) w2.heap.size (n + 1) (without (putV fx p (.slice ga gm gc)) (n + 1) i) (withoutL (putL (fun j => lx.getD j []) p lh) i) w12 (by omega) (fun j hj => RJ12.out.cell (by omega)) (fun j hj => RJ12.out.cell (by omega)) (without_grps hd1) (without_lens hd2)).mono ?_
    rintro e w13 ⟨rfl, hd13⟩
    have B13 : Hid (Below w.heap.size w w13) := B12.out.trans (hd13.below.mono B12.out.size)
    clear hd13 hd1 hd2
    go_wp2_with fail
    go_ret
    exact ⟨rfl, B13.out⟩
  · by_cases hBp : mxTo (scs lx) p (n - p) < mxTo (scs lx) 0 p
    · have hs : score lh < mxTo (scs lx) 0 p := by
        by_cases q : mxTo (scs lx) 0 p ≤ score lh
        · exact absurd ⟨q, by omega⟩ hD
        · omega
      have hn0 : 0 < n := by
        by_cases q : 0 < n
        · exact q
        · have e0 : p = 0 := by omega
          rw [e0] at hs
          have := score_ge lh
          have e2 : mxTo (scs lx) 0 0 = -1 := rfl
          omega
      obtain ⟨hixp, hlm⟩ := put_before (scs_ge lx) hp (HIX2.out hn0) hBp hs
      have CUT : Hid (∀ j, j < n → putV (without fx n ix) (p - 1) (.slice ga gm gc) j = without (putV fx p (.slice ga gm gc)) (n + 1) i j) := by
        have e := lastMax_unique HI2.out hlm
        rw [e]
        exact put_cutB hixp hp
      clear HI2 hD hlm
      generalize mxTo (scs lx) 0 p = pre at hs hBp ⊢
      generalize mxTo (scs lx) p (n - p) = post at hBp ⊢
      generalize score lh = sh at hs ⊢
      have g1 : ¬ pre ≤ sh := by omega
      have hq1 : ¬ (p : Int) - 1 < 0 := by omega
      have hq2 : ¬ ((n - 1 : Nat) : Int) < (p : Int) - 1 := by omega
      go_wp2_with fail
      have hq3 : (p : Int) - 1 = ((p - 1 : Nat) : Int) := by omega
      rw [hq3]
      refine (insert_any w4.heap.size (n - 1) n (p - 1) (without fx n ix) ga gm gc w9 (by omega) (by omega) (without_sl Ha9.out.sl n ix) (fun j hj => RX9.out.cell (by omega))).mono ?_
      rintro e w11 ⟨rfl, hF11⟩
      have hen : n - 1 + 1 = n := by omega
      rw [hen] at hF11 ⊢
      have F11 : Hid (Fill w9 w11 n (putV (without fx n ix) (p - 1) (.slice ga gm gc))) := hF11
      have W11 := hideN F11.out.cells
      clear hF11 hen hq3
      have RJ11 := hideN (RJ9.out.of_block (F11.out.below.block _ RJ9.out.lt))
      have Ha11 := hideN (Ha9.out.below F11.out.below)
      have G11 := hideN (G9.out.below F11.out.below)
      have B11 : Hid (Below w.heap.size w w11) := B9.out.trans (F11.out.below.mono B9.out.size)
      obtain ⟨hc1, hc2, -⟩ := Ha11.out.put G11.out FB.out hp
      have HC1 := hideN hc1
      have HC2 := hideN hc2
      clear hc1 hc2
      go_wp2_with fail
      refine (same_any w2.heap.size n (n + 1) w9.heap.size n (without (putV fx p (.slice ga gm gc)) (n + 1) i) (withoutL (putL (fun j => lx.getD j []) p lh) i) w11 (by omega) (fun j hj => RJ11.out.cell (by omega)) (W11.out.congr CUT.out) (without_grps HC1.out) (without_lens HC2.out)).mono ?_
      rintro e w12 ⟨rfl, hd12⟩
      have RJ12 := hideN (hd12.row RJ11.out)
      have D12 := hideN hd12
      clear hd12
      have Ha12 := hideN (Ha11.out.below D12.out.below)
      have G12 := hideN (G11.out.below D12.out.below)
      have B12 : Hid (Below w.heap.size w w12) := B11.out.trans (D12.out.below.mono B11.out.size)
      clear Ha11 G11 RJ11 D12
      have cl : w12.cell? ⟨w2.heap.size, n, none⟩ = some (.slice none 0 0) := by
        have := RJ12.out.cell (show n < n + 1 by omega)
        rw [this]
        exact congrArg some (without_last (n := n + 1) hin)
      have kn := fun (w : World) => run_neq_slice_nil_any (P := Try.prog) w 32 42 none 0 0 0 0 Try.underlying32
      have hz1 : (n : Int) < ((n + 1 : Nat) : Int) := by omega
      have hz2 : (n : Int) ≤ ((n + 1 : Nat) : Int) := by omega
      go_wp2_with fail
      obtain ⟨hd1, hd2, -⟩ := Ha12.out.put G12.out FB.out hp
      refine (same_any w2.heap.size n (n + 1) w2.heap.size (n + 1) (without (putV fx p (.slice ga gm gc)) (n + 1) i) (withoutL (putL (fun j => lx.getD j []) p lh) i) w12 (by omega) (fun j hj => RJ12.out.cell (by omega)) (fun j hj => RJ12.out.cell (by omega)) (without_grps hd1) (without_lens hd2)).mono ?_
      rintro e w13 ⟨rfl, hd13⟩
      have B13 : Hid (Below w.heap.size w w13) := B12.out.trans (hd13.below.mono B12.out.size)
      clear hd13 hd1 hd2
      go_wp2_with fail
      go_ret
      exact ⟨rfl, B13.out⟩
    · have hs : score lh ≤ mxTo (scs lx) p (n - p) := by
        by_cases q : mxTo (scs lx) p (n - p) < score lh
        · exact absurd ⟨by omega, q⟩ hD
        · omega
      have hpn : p < n := by
        by_cases q : p < n
        · exact q
        · rw [show n - p = 0 by omega] at hs
          have := score_ge lh
          have e2 : mxTo (scs lx) p 0 = -1 := rfl
          omega
      obtain ⟨hixp, hlm⟩ := put_behind (HIX2.out (by omega)) (show mxTo (scs lx) 0 p ≤ mxTo (scs lx) p (n - p) by omega) hs (scs_ge lx) hpn
      have CUT : Hid (∀ j, j < n → putV (without fx n ix) p (.slice ga gm gc) j = without (putV fx p (.slice ga gm gc)) (n + 1) i j) := by
        have e := lastMax_unique HI2.out hlm
        rw [e]
        exact put_cutC hixp (HIX2.out (by omega)).1
      clear HI2 hD hlm
      have hixn := hideN (HIX2.out (by omega)).1
      generalize mxTo (scs lx) 0 p = pre at hBp ⊢
      generalize mxTo (scs lx) p (n - p) = post at hs hBp ⊢
      generalize score lh = sh at hs ⊢
      have g2 : ¬ post < sh := by omega
      have hq2 : ¬ ((n - 1 : Nat) : Int) < (p : Int) := by omega
      have hq4 : decide (n - 1 < p) = false := by simp; omega
      by_cases g1 : pre ≤ sh
      all_goals
        go_wp2_with fail
        refine (insert_any w4.heap.size (n - 1) n p (without fx n ix) ga gm gc w9 (by omega) (by omega) (without_sl Ha9.out.sl n ix) (fun j hj => RX9.out.cell (by omega))).mono ?_
        rintro e w11 ⟨rfl, hF11⟩
        have hen : n - 1 + 1 = n := by omega
        rw [hen] at hF11 ⊢
        have F11 : Hid (Fill w9 w11 n (putV (without fx n ix) p (.slice ga gm gc))) := hF11
        have W11 := hideN F11.out.cells
        clear hF11 hen
        have RJ11 := hideN (RJ9.out.of_block (F11.out.below.block _ RJ9.out.lt))
        have Ha11 := hideN (Ha9.out.below F11.out.below)
        have G11 := hideN (G9.out.below F11.out.below)
        have B11 : Hid (Below w.heap.size w w11) := B9.out.trans (F11.out.below.mono B9.out.size)
        obtain ⟨hc1, hc2, -⟩ := Ha11.out.put G11.out FB.out hp
        have HC1 := hideN hc1
        have HC2 := hideN hc2
        clear hc1 hc2
        go_wp2_with fail
        refine (same_any w2.heap.size n (n + 1) w9.heap.size n (without (putV fx p (.slice ga gm gc)) (n + 1) i) (withoutL (putL (fun j => lx.getD j []) p lh) i) w11 (by omega) (fun j hj => RJ11.out.cell (by omega)) (W11.out.congr CUT.out) (without_grps HC1.out) (without_lens HC2.out)).mono ?_
        rintro e w12 ⟨rfl, hd12⟩
        have RJ12 := hideN (hd12.row RJ11.out)
        have D12 := hideN hd12
        clear hd12
        have Ha12 := hideN (Ha11.out.below D12.out.below)
        have G12 := hideN (G11.out.below D12.out.below)
        have B12 : Hid (Below w.heap.size w w12) := B11.out.trans (D12.out.below.mono B11.out.size)
        clear Ha11 G11 RJ11 D12
        have cl : w12.cell? ⟨w2.heap.size, n, none⟩ = some (.slice none 0 0) := by
          have := RJ12.out.cell (show n < n + 1 by omega)
          rw [this]
          exact congrArg some (without_last (n := n + 1) hin)
        have kn := fun (w : World) => run_neq_slice_nil_any (P := Try.prog) w 32 42 none 0 0 0 0 Try.underlying32
        have hz1 : (n : Int) < ((n + 1 : Nat) : Int) := by omega
        have hz2 : (n : Int) ≤ ((n + 1 : Nat) : Int) := by omega
        go_wp2_with fail
        obtain ⟨hd1, hd2, -⟩ := Ha12.out.put G12.out FB.out hp
        refine (same_any w2.heap.size n (n + 1) w2.heap.size (n + 1) (without (putV fx p (.slice ga gm gc)) (n + 1) i) (withoutL (putL (fun j => lx.getD j []) p lh) i) w12 (by omega) (fun j hj => RJ12.out.cell (by omega)) (fun j hj => RJ12.out.cell (by omega)) (without_grps hd1) (without_lens hd2)).mono ?_
        rintro e w13 ⟨rfl, hd13⟩
        have B13 : Hid (Below w.heap.size w w13) := B12.out.trans (hd13.below.mono B12.out.size)
        clear hd13 hd1 hd2
        go_wp2_with fail
        go_ret
        exact ⟨rfl, B13.out⟩

end Go.Proofs.Qxb6617321a
