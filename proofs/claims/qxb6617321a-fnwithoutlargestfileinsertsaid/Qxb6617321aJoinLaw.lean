/-
  The law on two lists, walked.
-/
import Derived.Test.Qxb6617321aState
namespace Go.Proofs.Qxb6617321a
open Go.RowKit

/-- The groups of a, then those of b. -/
def catV (f g : Nat → Value) (n : Nat) (j : Nat) : Value := if j < n then f j else g (j - n)
def catL (f g : Nat → List Row) (n : Nat) (j : Nat) : List Row := if j < n then f j else g (j - n)

theorem Held.cat {w : World} {b n b' m : Nat} {f g : Nat → Value} {L M : Nat → List Row} (h : Held w b n f L) (k : Held w b' m g M) :
    (∀ j, j < n + m → Grp w (catV f g n j) (catL L M n j)) ∧ (∀ j, j < n + m → ((catL L M n j).length : Int) ≤ 1048576) ∧ IsSl (catV f g n) := by
  refine ⟨fun j hj => ?_, fun j hj => ?_, fun j => ?_⟩
  · unfold catV catL
    split
    · exact h.grps j (by assumption)
    · exact k.grps _ (by omega)
  · unfold catL
    split
    · exact h.lens j (by assumption)
    · exact k.lens _ (by omega)
  · unfold catV
    split
    · exact h.sl j
    · exact k.sl _

theorem cut_right {fa fb : Nat → Value} {na nb ib : Nat} (_h : ib < nb) : ∀ j, j < na + nb - 1 → catV fa (without fb nb ib) na j = without (catV fa fb na) (na + nb) (na + ib) j := fun j hj => by
  unfold catV without
  by_cases e1 : j < na
  · have a1 : j < na + ib := by omega
    simp only [e1, a1, if_true]
  · by_cases e2 : j < na + ib
    · have a1 : j - na < ib := by omega
      simp only [e1, e2, a1, if_true, if_false]
    · have a1 : ¬ j - na < ib := by omega
      have a2 : j - na + 1 < nb := by omega
      have a3 : j + 1 < na + nb := by omega
      have a4 : ¬ j + 1 < na := by omega
      simp only [e1, e2, a1, a2, a3, a4, if_true, if_false]
      rw [show j + 1 - na = j - na + 1 by omega]
theorem cut_left {fa fb : Nat → Value} {na nb ia : Nat} (h : ia < na) : ∀ j, j < na + nb - 1 → catV (without fa na ia) fb (na - 1) j = without (catV fa fb na) (na + nb) ia j := fun j hj => by
  unfold catV without
  by_cases e1 : j < ia
  · have a1 : j < na - 1 := by omega
    have a2 : j < na := by omega
    simp only [e1, a1, a2, if_true]
  · by_cases e2 : j + 1 < na
    · have a1 : j < na - 1 := by omega
      have a2 : j + 1 < na + nb := by omega
      simp only [e1, e2, a1, a2, if_true, if_false]
    · have a1 : ¬ j < na - 1 := by omega
      have a2 : j + 1 < na + nb := by omega
      simp only [e1, e2, a1, a2, if_true, if_false]
      rw [show j + 1 - na = j - (na - 1) by omega]
theorem without_last {f : Nat → Value} {n i : Nat} (h : i < n) : without f n i (n - 1) = .slice none 0 0 := by
  unfold without
  rw [if_neg (by omega), if_neg (by omega)]
  rfl
theorem Cells.congr {w : World} {b n : Nat} {f g : Nat → Value} (h : Cells w b n f) (e : ∀ j, j < n → f j = g j) : Cells w b n g := fun j hj => by rw [← e j hj]; exact h j hj

set_option maxRecDepth 100000 in
set_option maxHeartbeats 4000000 in
theorem join_law (a : Option Addr) (na ca : Nat) (la : List (List Row)) (a' : Option Addr) (nb cb : Nat) (lb : List (List Row)) (w : World) (hA : InR w (.slice a na ca) la) (hB : InR w (.slice a' nb cb) lb)
    (hna : na = la.length) (hnb : nb = lb.length) (ma : (la.length : Int) ≤ 9223372036854775807) (msa : ∀ i, i < la.length → ((la.getD i []).length : Int) ≤ 9223372036854775807) (mb : (lb.length : Int) ≤ 9223372036854775807) (msb : ∀ i, i < lb.length → ((lb.getD i []).length : Int) ≤ 9223372036854775807) :
    Calls Try.prog 3 #[.slice a na ca, .slice a' nb cb] w fun e w' => e = .returned (.bool true) ∧ Below w.heap.size w w' := by
  have HA := hideN hA
  have HB := hideN hB
  have HNA := hideN hna
  have HNB := hideN hnb
  have MA := hideN ma
  have MSA := hideN msa
  have MB := hideN mb
  have MSB := hideN msb
  clear hA hB hna hnb ma msa mb msb
  go_enter Try.func3, Try.ntmps3
  go_wp2_with fail
  refine (bytesJ a na ca la a' nb cb lb w HA.out HB.out).mono ?_
  rintro e w' ⟨r, rfl, hw⟩
  rw [hw]
  clear hw w'
  cases r
  · go_wp2_with fail
    go_ret
    exact ⟨rfl, Below.refl _ _⟩
  go_wp2_with fail
  refine (addR_any 0 HA.out (by omega) (by omega) MA.out MSA.out).mono ?_
  rintro e w' ⟨t, rfl, hw, ht0, ht⟩
  rw [hw]
  have HTA := hideN ht
  clear hw w' ht
  by_cases ht1 : (1048576 : Int) < t
  · go_wp2_with fail
    go_ret
    exact ⟨rfl, Below.refl _ _⟩
  have FA := hideN (HTA.out (by omega))
  have e1 : decide ((1048576 : Int) < t) = false := by simp; omega
  clear HTA
  go_wp2_with fail
  refine (addR_any t HB.out ht0 (by omega) MB.out MSB.out).mono ?_
  rintro e w' ⟨t2, rfl, hw, ht20, ht2⟩
  rw [hw]
  have HTB := hideN ht2
  clear hw w' ht2
  by_cases ht3 : (1048576 : Int) < t2
  · go_wp2_with fail
    go_ret
    exact ⟨rfl, Below.refl _ _⟩
  have FB := hideN (HTB.out (by omega))
  have e2 : decide ((1048576 : Int) < t2) = false := by simp; omega
  have hna1 : (na : Int) ≤ 1048576 := by rw [HNA.out]; exact FA.out.1
  have hnb1 : (nb : Int) ≤ 1048576 := by rw [HNB.out]; exact FB.out.1
  clear HTB
  go_wp2_with fail
  refine (build_any a na ca la w HNA.out FA.out HA.out).mono ?_
  rintro e w1 ⟨va, hva, rfl, hBa⟩
  have Ha1 := hideN (hBa.held hva HNA.out FA.out)
  have B1 := hideN hBa.below
  clear hBa hva
  go_wp2_with fail
  refine (build_any a' nb cb lb w1 HNB.out FB.out (HB.out.below B1.out)).mono ?_
  rintro e w2 ⟨vb, hvb, rfl, hBb⟩
  have Hb2 := hideN (hBb.held hvb HNB.out FB.out)
  have Ha2 := hideN (Ha1.out.below hBb.below)
  have B2 : Hid (Below w.heap.size w w2) := B1.out.trans (hBb.below.mono B1.out.size)
  clear hBb hvb
  generalize (fun j => va.getD j nilV) = fa at Ha1 Ha2
  generalize (fun j => vb.getD j nilV) = fb at Hb2
  go_wp2_with fail
  refine (join_any w.heap.size na na w1.heap.size nb nb fa fb w2 hna1 hnb1 Ha2.out.sl Hb2.out.sl Ha2.out.cells Hb2.out.cells).mono ?_
  rintro e w3 ⟨rfl, hF3⟩
  have F3 : Hid (Fill w2 w3 (na + nb) (catV fa fb na)) := hF3
  have B23 := hideN hF3.below
  have Ha3 := hideN (Ha2.out.below hF3.below)
  have Hb3 := hideN (Hb2.out.below hF3.below)
  clear hF3
  obtain ⟨hc1, hc2, hc3⟩ := Ha3.out.cat Hb3.out
  have HC1 := hideN hc1
  have HC2 := hideN hc2
  have HC3 := hideN hc3
  clear hc1 hc2 hc3
  obtain ⟨i, hi1, hi2⟩ := dropped (cat (scs la) (scs lb) na) (fun k => by unfold cat; split <;> exact scs_ge _ _) (na + nb)
  have HI1 := hideN hi1
  have HI2 := hideN hi2
  obtain ⟨ia, hia1, hia2⟩ := dropped (scs la) (scs_ge la) na
  have HIA1 := hideN hia1
  have HIA2 := hideN hia2
  obtain ⟨ib, hib1, hib2⟩ := dropped (scs lb) (scs_ge lb) nb
  have HIB1 := hideN hib1
  have HIB2 := hideN hib2
  clear hi1 hi2 hia1 hia2 hib1 hib2
  go_wp2_with fail
  refine (zwl_any w2.heap.size (na + nb) i (catV fa fb na) (catL (fun j => la.getD j []) (fun j => lb.getD j []) na) (cat (scs la) (scs lb) na) w3 (by omega) HC3.out F3.out.row HC1.out HC2.out (fun j _ => by unfold cat catL scs; split <;> rfl) HI1.out).mono ?_
  rintro e w4 ⟨rfl, hr4, hg4⟩
  have hb24 := below_own B23.out hg4
  have RJ4 := hideN hr4
  have Ha4 := hideN (Ha2.out.below hb24)
  have Hb4 := hideN (Hb2.out.below hb24)
  have B4 : Hid (Below w.heap.size w w4) := B2.out.trans (hb24.mono B2.out.size)
  clear hr4 hg4 hb24 F3 B23 Ha3 Hb3 HC1 HC2 HI1
  go_wp2_with fail
  refine (clone_any w.heap.size na na fa w4 (by omega) Ha4.out.sl Ha4.out.cells).mono ?_
  rintro e w5 ⟨rfl, hF5⟩
  have F5 := hideN hF5
  have Ha5 := hideN (Ha4.out.below hF5.below)
  clear hF5
  go_wp2_with fail
  refine (zwl_any w4.heap.size na ia fa (fun j => la.getD j []) (scs la) w5 (by omega) Ha5.out.sl F5.out.row Ha5.out.grps Ha5.out.lens (fun j _ => rfl) HIA1.out).mono ?_
  rintro e w6 ⟨rfl, hr6, hg6⟩
  have hb46 := below_own F5.out.below hg6
  have RA6 := hideN hr6
  have RJ6 := hideN (RJ4.out.of_block (hb46.block _ RJ4.out.lt))
  have Ha6 := hideN (Ha4.out.below hb46)
  have Hb6 := hideN (Hb4.out.below hb46)
  have B6 : Hid (Below w.heap.size w w6) := B4.out.trans (hb46.mono B4.out.size)
  clear hr6 hg6 hb46 F5 Ha5
  go_wp2_with fail
  refine (clone_any w1.heap.size nb nb fb w6 (by omega) Hb6.out.sl Hb6.out.cells).mono ?_
  rintro e w7 ⟨rfl, hF7⟩
  have F7 := hideN hF7
  have Hb7 := hideN (Hb6.out.below hF7.below)
  clear hF7
  go_wp2_with fail
  refine (zwl_any w6.heap.size nb ib fb (fun j => lb.getD j []) (scs lb) w7 (by omega) Hb7.out.sl F7.out.row Hb7.out.grps Hb7.out.lens (fun j _ => rfl) HIB1.out).mono ?_
  rintro e w8 ⟨rfl, hr8, hg8⟩
  have hb68 := below_own F7.out.below hg8
  have RB8 := hideN hr8
  have RA8 := hideN (RA6.out.of_block (hb68.block _ RA6.out.lt))
  have RJ8 := hideN (RJ6.out.of_block (hb68.block _ RJ6.out.lt))
  have Ha8 := hideN (Ha6.out.below hb68)
  have Hb8 := hideN (Hb6.out.below hb68)
  have B8 : Hid (Below w.heap.size w w8) := B6.out.trans (hb68.mono B6.out.size)
  have IA8 := hideN (HA.out.below B8.out)
  have IB8 := hideN (HB.out.below B8.out)
  clear hr8 hg8 hb68 F7 Hb7 Ha1 Ha2 Hb2 Ha4 Hb4 Ha6 Hb6 RJ4 RA6 RJ6 B1 B2 B4 B6 HA HB
  by_cases hP1 : 0 < nb ∧ mxTo (scs la) 0 na ≤ mxTo (scs lb) 0 nb
  · obtain ⟨hb0, hge⟩ := hP1
    have hin : i < na + nb := (HI2.out (by omega)).1
    have CUT : Hid (∀ j, j < na + nb - 1 → catV fa (without fb nb ib) na j = without (catV fa fb na) (na + nb) i j) := by
      have e := lastMax_unique (HI2.out (by omega)) (cat_right (scs_ge lb) (HIB2.out hb0) hge)
      rw [e]
      exact cut_right (HIB2.out hb0).1
    have hz1 : (0 : Int) < (na : Int) + (nb : Int) := by omega
    have hz2 : (((na + nb - 1 : Nat) : Int) != (na : Int) + (nb : Int) - 1) = false := by simp; omega
    have hz3 : ((na : Int) + (nb : Int) - 1).toNat = na + nb - 1 := by omega
    have hz4 : (0 : Int) ≤ (na : Int) + (nb : Int) - 1 := by omega
    have hz5 : (na : Int) + (nb : Int) - 1 < ((na + nb : Nat) : Int) := by omega
    have hz6 : (na : Int) + (nb : Int) - 1 ≤ ((na + nb : Nat) : Int) := by omega
    have hb0' : (0 : Int) < (nb : Int) := by omega
    generalize hA0 : mxTo (scs la) 0 na = xa at hge
    generalize hB0 : mxTo (scs lb) 0 nb = xb at hge
    have HA0 := hideN hA0
    have HB0 := hideN hB0
    clear hA0 hB0
    go_wp2_with fail
    refine (max_all IB8.out FB.out HNB.out).mono ?_
    rintro e w9 ⟨rfl, hd9⟩
    rw [HB0.out]
    have D9 := hideN hd9
    clear hd9
    go_wp2_with fail
    refine (max_all (IA8.out.below D9.out.below) FA.out HNA.out).mono ?_
    rintro e w10 ⟨rfl, hd10⟩
    rw [HA0.out]
    have B810 : Hid (Below w8.heap.size w8 w10) := D9.out.below.trans (hd10.below.mono D9.out.below.size)
    clear hd10 D9
    have Ha10 := hideN (Ha8.out.below B810.out)
    have RB10 := hideN (RB8.out.of_block (B810.out.block _ RB8.out.lt))
    go_wp2_with fail
    refine (join_any w.heap.size na na w6.heap.size (nb - 1) nb fa (without fb nb ib) w10 hna1 (by omega) Ha10.out.sl (without_sl Hb8.out.sl nb ib) Ha10.out.cells (fun j hj => RB10.out.cell (by omega))).mono ?_
    rintro e w11 ⟨rfl, hF11⟩
    have hen : na + (nb - 1) = na + nb - 1 := by omega
    rw [hen] at hF11 ⊢
    have W11 : Hid (Fill w10 w11 (na + nb - 1) (catV fa (without fb nb ib) na)) := hF11
    clear hF11 hen Ha10 RB10
    have b811 : Below w8.heap.size w8 w11 := B810.out.trans (W11.out.below.mono B810.out.size)
    have RJ11 := hideN (RJ8.out.of_block (b811.block _ RJ8.out.lt))
    have Ha11 := hideN (Ha8.out.below b811)
    have Hb11 := hideN (Hb8.out.below b811)
    have B11 : Hid (Below w.heap.size w w11) := B8.out.trans (b811.mono B8.out.size)
    clear b811
    obtain ⟨hc1, hc2, -⟩ := Ha11.out.cat Hb11.out
    have HC1 := hideN hc1
    have HC2 := hideN hc2
    clear hc1 hc2
    go_wp2_with fail
    refine (same_any w2.heap.size (na + nb - 1) (na + nb) w10.heap.size (na + nb - 1) (without (catV fa fb na) (na + nb) i) (withoutL (catL (fun j => la.getD j []) (fun j => lb.getD j []) na) i) w11 (by omega) (fun j hj => RJ11.out.cell (by omega)) (W11.out.cells.congr CUT.out) (without_grps HC1.out) (without_lens HC2.out)).mono ?_
    rintro e w12 ⟨rfl, hd12⟩
    have RJ12 := hideN (hd12.row RJ11.out)
    have D12 := hideN hd12
    clear hd12
    have Ha12 := hideN (Ha11.out.below D12.out.below)
    have Hb12 := hideN (Hb11.out.below D12.out.below)
    have B12 : Hid (Below w.heap.size w w12) := B11.out.trans (D12.out.below.mono B11.out.size)
    clear Ha11 Hb11 RJ11 D12
    have cl : w12.cell? ⟨w2.heap.size, na + nb - 1, none⟩ = some (.slice none 0 0) := by rw [RJ12.out.cell (by omega), without_last hin]
    have kn := fun (w : World) => run_neq_slice_nil_any (P := Try.prog) w 32 42 none 0 0 0 0 Try.underlying32
    go_wp2_with fail
    obtain ⟨hd1, hd2, -⟩ := Ha12.out.cat Hb12.out
    refine (same_any w2.heap.size (na + nb - 1) (na + nb) w2.heap.size (na + nb) (without (catV fa fb na) (na + nb) i) (withoutL (catL (fun j => la.getD j []) (fun j => lb.getD j []) na) i) w12 (by omega) (fun j hj => RJ12.out.cell (by omega)) (fun j hj => RJ12.out.cell (by omega)) (without_grps hd1) (without_lens hd2)).mono ?_
    rintro e w13 ⟨rfl, hd13⟩
    have B13 : Hid (Below w.heap.size w w13) := B12.out.trans (hd13.below.mono B12.out.size)
    clear hd13 hd1 hd2
    go_wp2_with fail
    go_ret
    exact ⟨rfl, B13.out⟩
  · by_cases hn0 : 0 < na + nb
    · have hdec : nb = 0 ∨ mxTo (scs lb) 0 nb < mxTo (scs la) 0 na := by
        by_cases q : nb = 0
        · exact .inl q
        · exact .inr (by
            have : ¬ mxTo (scs la) 0 na ≤ mxTo (scs lb) 0 nb := fun r => hP1 ⟨by omega, r⟩
            omega)
      have hna0 : 0 < na := by
        rcases hdec with q | q
        · omega
        · by_cases r : 0 < na
          · exact r
          · have e : na = 0 := by omega
            rw [e] at q
            have := mxTo_lo (scs lb) 0 nb
            have e2 : mxTo (scs la) 0 0 = -1 := rfl
            omega
      clear hP1
      by_cases hb0 : 0 < nb
      · have hb0' : (0 : Int) < (nb : Int) := by omega
        have hge : ¬ mxTo (scs la) 0 na ≤ mxTo (scs lb) 0 nb := by
          rcases hdec with q | q
          · omega
          · omega
        have hin : i < na + nb := (HI2.out (by omega)).1
        have CUT : Hid (∀ j, j < na + nb - 1 → catV (without fa na ia) fb (na - 1) j = without (catV fa fb na) (na + nb) i j) := by
          have e := lastMax_unique (HI2.out (by omega)) (cat_left (scs_ge la) (HIA2.out (by omega)) hdec)
          rw [e]
          exact cut_left (HIA2.out (by omega)).1
        have hz1 : (0 : Int) < (na : Int) + (nb : Int) := by omega
        have hz2 : (((na + nb - 1 : Nat) : Int) != (na : Int) + (nb : Int) - 1) = false := by simp; omega
        have hz3 : ((na : Int) + (nb : Int) - 1).toNat = na + nb - 1 := by omega
        have hz4 : (0 : Int) ≤ (na : Int) + (nb : Int) - 1 := by omega
        have hz5 : (na : Int) + (nb : Int) - 1 < ((na + nb : Nat) : Int) := by omega
        have hz6 : (na : Int) + (nb : Int) - 1 ≤ ((na + nb : Nat) : Int) := by omega
        generalize hA0 : mxTo (scs la) 0 na = xa at hge
        generalize hB0 : mxTo (scs lb) 0 nb = xb at hge
        have HA0 := hideN hA0
        have HB0 := hideN hB0
        clear hA0 hB0 hdec
        go_wp2_with fail
        refine (max_all IB8.out FB.out HNB.out).mono ?_
        rintro e w9 ⟨rfl, hd9⟩
        rw [HB0.out]
        have D9 := hideN hd9
        clear hd9
        go_wp2_with fail
        refine (max_all (IA8.out.below D9.out.below) FA.out HNA.out).mono ?_
        rintro e w10 ⟨rfl, hd10⟩
        rw [HA0.out]
        have B810 : Hid (Below w8.heap.size w8 w10) := D9.out.below.trans (hd10.below.mono D9.out.below.size)
        clear hd10 D9
        have Hb10 := hideN (Hb8.out.below B810.out)
        have RA10 := hideN (RA8.out.of_block (B810.out.block _ RA8.out.lt))
        go_wp2_with fail
        refine (join_any w4.heap.size (na - 1) na w1.heap.size nb nb (without fa na ia) fb w10 (by omega) hnb1 (without_sl Ha8.out.sl na ia) Hb10.out.sl (fun j hj => RA10.out.cell (by omega)) Hb10.out.cells).mono ?_
        rintro e w11 ⟨rfl, hF11⟩
        have hen : na - 1 + nb = na + nb - 1 := by omega
        rw [hen] at hF11 ⊢
        have W11 : Hid (Fill w10 w11 (na + nb - 1) (catV (without fa na ia) fb (na - 1))) := hF11
        clear hF11 hen Hb10 RA10
        have b811 : Below w8.heap.size w8 w11 := B810.out.trans (W11.out.below.mono B810.out.size)
        have RJ11 := hideN (RJ8.out.of_block (b811.block _ RJ8.out.lt))
        have Ha11 := hideN (Ha8.out.below b811)
        have Hb11 := hideN (Hb8.out.below b811)
        have B11 : Hid (Below w.heap.size w w11) := B8.out.trans (b811.mono B8.out.size)
        clear b811
        obtain ⟨hc1, hc2, -⟩ := Ha11.out.cat Hb11.out
        have HC1 := hideN hc1
        have HC2 := hideN hc2
        clear hc1 hc2
        go_wp2_with fail
        refine (same_any w2.heap.size (na + nb - 1) (na + nb) w10.heap.size (na + nb - 1) (without (catV fa fb na) (na + nb) i) (withoutL (catL (fun j => la.getD j []) (fun j => lb.getD j []) na) i) w11 (by omega) (fun j hj => RJ11.out.cell (by omega)) (W11.out.cells.congr CUT.out) (without_grps HC1.out) (without_lens HC2.out)).mono ?_
        rintro e w12 ⟨rfl, hd12⟩
        have RJ12 := hideN (hd12.row RJ11.out)
        have D12 := hideN hd12
        clear hd12
        have Ha12 := hideN (Ha11.out.below D12.out.below)
        have Hb12 := hideN (Hb11.out.below D12.out.below)
        have B12 : Hid (Below w.heap.size w w12) := B11.out.trans (D12.out.below.mono B11.out.size)
        clear Ha11 Hb11 RJ11 D12
        have cl : w12.cell? ⟨w2.heap.size, na + nb - 1, none⟩ = some (.slice none 0 0) := by rw [RJ12.out.cell (by omega), without_last hin]
        have kn := fun (w : World) => run_neq_slice_nil_any (P := Try.prog) w 32 42 none 0 0 0 0 Try.underlying32
        go_wp2_with fail
        obtain ⟨hd1, hd2, -⟩ := Ha12.out.cat Hb12.out
        refine (same_any w2.heap.size (na + nb - 1) (na + nb) w2.heap.size (na + nb) (without (catV fa fb na) (na + nb) i) (withoutL (catL (fun j => la.getD j []) (fun j => lb.getD j []) na) i) w12 (by omega) (fun j hj => RJ12.out.cell (by omega)) (fun j hj => RJ12.out.cell (by omega)) (without_grps hd1) (without_lens hd2)).mono ?_
        rintro e w13 ⟨rfl, hd13⟩
        have B13 : Hid (Below w.heap.size w w13) := B12.out.trans (hd13.below.mono B12.out.size)
        clear hd13 hd1 hd2
        go_wp2_with fail
        go_ret
        exact ⟨rfl, B13.out⟩
      · have hb0' : ¬ (0 : Int) < (nb : Int) := by omega
        have hin : i < na + nb := (HI2.out (by omega)).1
        have CUT : Hid (∀ j, j < na + nb - 1 → catV (without fa na ia) fb (na - 1) j = without (catV fa fb na) (na + nb) i j) := by
          have e := lastMax_unique (HI2.out (by omega)) (cat_left (scs_ge la) (HIA2.out (by omega)) hdec)
          rw [e]
          exact cut_left (HIA2.out (by omega)).1
        have hz1 : (0 : Int) < (na : Int) + (nb : Int) := by omega
        have hz2 : (((na + nb - 1 : Nat) : Int) != (na : Int) + (nb : Int) - 1) = false := by simp; omega
        have hz3 : ((na : Int) + (nb : Int) - 1).toNat = na + nb - 1 := by omega
        have hz4 : (0 : Int) ≤ (na : Int) + (nb : Int) - 1 := by omega
        have hz5 : (na : Int) + (nb : Int) - 1 < ((na + nb : Nat) : Int) := by omega
        have hz6 : (na : Int) + (nb : Int) - 1 ≤ ((na + nb : Nat) : Int) := by omega
        clear hdec
        have Hb10 := Hb8
        have RA10 := RA8
        have B810 : Hid (Below w8.heap.size w8 w8) := Below.refl _ _
        go_wp2_with fail
        refine (join_any w4.heap.size (na - 1) na w1.heap.size nb nb (without fa na ia) fb w8 (by omega) hnb1 (without_sl Ha8.out.sl na ia) Hb10.out.sl (fun j hj => RA10.out.cell (by omega)) Hb10.out.cells).mono ?_
        rintro e w11 ⟨rfl, hF11⟩
        have hen : na - 1 + nb = na + nb - 1 := by omega
        rw [hen] at hF11 ⊢
        have W11 : Hid (Fill w8 w11 (na + nb - 1) (catV (without fa na ia) fb (na - 1))) := hF11
        clear hF11 hen Hb10 RA10
        have b811 : Below w8.heap.size w8 w11 := B810.out.trans (W11.out.below.mono B810.out.size)
        have RJ11 := hideN (RJ8.out.of_block (b811.block _ RJ8.out.lt))
        have Ha11 := hideN (Ha8.out.below b811)
        have Hb11 := hideN (Hb8.out.below b811)
        have B11 : Hid (Below w.heap.size w w11) := B8.out.trans (b811.mono B8.out.size)
        clear b811
        obtain ⟨hc1, hc2, -⟩ := Ha11.out.cat Hb11.out
        have HC1 := hideN hc1
        have HC2 := hideN hc2
        clear hc1 hc2
        go_wp2_with fail
        refine (same_any w2.heap.size (na + nb - 1) (na + nb) w8.heap.size (na + nb - 1) (without (catV fa fb na) (na + nb) i) (withoutL (catL (fun j => la.getD j []) (fun j => lb.getD j []) na) i) w11 (by omega) (fun j hj => RJ11.out.cell (by omega)) (W11.out.cells.congr CUT.out) (without_grps HC1.out) (without_lens HC2.out)).mono ?_
        rintro e w12 ⟨rfl, hd12⟩
        have RJ12 := hideN (hd12.row RJ11.out)
        have D12 := hideN hd12
        clear hd12
        have Ha12 := hideN (Ha11.out.below D12.out.below)
        have Hb12 := hideN (Hb11.out.below D12.out.below)
        have B12 : Hid (Below w.heap.size w w12) := B11.out.trans (D12.out.below.mono B11.out.size)
        clear Ha11 Hb11 RJ11 D12
        have cl : w12.cell? ⟨w2.heap.size, na + nb - 1, none⟩ = some (.slice none 0 0) := by rw [RJ12.out.cell (by omega), without_last hin]
        have kn := fun (w : World) => run_neq_slice_nil_any (P := Try.prog) w 32 42 none 0 0 0 0 Try.underlying32
        go_wp2_with fail
        obtain ⟨hd1, hd2, -⟩ := Ha12.out.cat Hb12.out
        refine (same_any w2.heap.size (na + nb - 1) (na + nb) w2.heap.size (na + nb) (without (catV fa fb na) (na + nb) i) (withoutL (catL (fun j => la.getD j []) (fun j => lb.getD j []) na) i) w12 (by omega) (fun j hj => RJ12.out.cell (by omega)) (fun j hj => RJ12.out.cell (by omega)) (without_grps hd1) (without_lens hd2)).mono ?_
        rintro e w13 ⟨rfl, hd13⟩
        have B13 : Hid (Below w.heap.size w w13) := B12.out.trans (hd13.below.mono B12.out.size)
        clear hd13 hd1 hd2
        go_wp2_with fail
        go_ret
        exact ⟨rfl, B13.out⟩
    · obtain rfl : na = 0 := by omega
      obtain rfl : nb = 0 := by omega
      have Hb10 := Hb8
      have RA10 := RA8
      have B810 : Hid (Below w8.heap.size w8 w8) := Below.refl _ _
      go_wp2_with fail
      refine (join_any w4.heap.size 0 0 w1.heap.size 0 0 (without fa 0 ia) fb w8 (by omega) (by omega) (without_sl Ha8.out.sl 0 ia) Hb10.out.sl (fun j hj => by omega) (fun j hj => by omega)).mono ?_
      rintro e w11 ⟨rfl, hF11⟩
      have W11 := hideN hF11
      clear hF11
      have b811 : Below w8.heap.size w8 w11 := W11.out.below
      have B11 : Hid (Below w.heap.size w w11) := B8.out.trans (b811.mono B8.out.size)
      clear b811
      go_wp2_with fail
      refine (same_any w2.heap.size 0 0 w8.heap.size 0 (fun _ => nilV) (fun _ => []) w11 (by omega) (fun j hj => by omega) (fun j hj => by omega) (fun j hj => by omega) (fun j hj => by omega)).mono ?_
      rintro e w12 ⟨rfl, hd12⟩
      have B12 : Hid (Below w.heap.size w w12) := B11.out.trans (hd12.below.mono B11.out.size)
      clear hd12
      go_wp2_with fail
      go_ret
      exact ⟨rfl, B12.out⟩

end Go.Proofs.Qxb6617321a
