/-
  The walk of withoutLargestFile and of ZZWithoutLargestFile.
-/
import Derived.Test.Qxb6617321aDelete
namespace Go.Proofs.Qxb6617321a
open Go.RowKit

theorem Draws.row {w w' : World} (h : Draws w w') {b : Nat} {t : TypeId} {n : Nat} {f : Nat → Value} (hr : w.rowIs b t n f) : w'.rowIs b t n f :=
  hr.of_block (h.below.block b hr.lt)
theorem Draws.grown {w w' : World} (h : Draws w w') (row : Option Nat) : w.grownBy w' row := by
  obtain ⟨m, rfl⟩ := h
  exact ⟨rfl, rfl, rfl, Nat.le_refl _, fun _ _ _ => rfl⟩

theorem kpTo_ge {s : Nat → Int} {k : Nat} (h : (kpTo s k).2 ≤ s k) : kpTo s (k + 1) = ((k : Int), s k) := by rw [kpTo, if_pos h]
theorem kpTo_lt {s : Nat → Int} {k : Nat} (h : ¬ (kpTo s k).2 ≤ s k) : kpTo s (k + 1) = kpTo s k := by rw [kpTo, if_neg h]

set_option maxHeartbeats 400000 in
theorem wl_none (b c : Nat) (w : World) :
    Calls Try.prog 18 #[.slice (some ⟨b, 0, none⟩) 0 c] w fun e w' => e = .returned (.slice (some ⟨b, 0, none⟩) 0 c) ∧ w' = w := by
  go_enter Try.func18, Try.ntmps18
  go_wp2
  go_loop [3, 4, 10] (fun k l v => k = .int .i64 (-1) ∧ l = .int .i64 (-1) ∧ v = .int .i64 0) (fun _ _ _ => 0)
  case atStart => exact ⟨rfl, rfl, rfl⟩
  case round =>
    obtain ⟨rfl, rfl, rfl⟩ := hrel
    go_wp2
    go_ret
    exact ⟨rfl, rfl⟩

set_option maxHeartbeats 2000000 in
theorem wl_some (b n i : Nat) (f : Nat → Value) (L : Nat → List Row) (s : Nat → Int) (w : World) (hn : (n : Int) ≤ 4194304) (h0 : 0 < n) (hf : IsSl f) (hrow : w.rowIs b 32 n f)
    (hG : ∀ j, j < n → Grp w (f j) (L j)) (hL : ∀ j, j < n → ((L j).length : Int) ≤ 1048576) (hs : ∀ j, j < n → s j = score (L j)) (hi : kpTo s n = ((i : Int), s i)) (hin : i < n) :
    Calls Try.prog 18 #[.slice (some ⟨b, 0, none⟩) n n] w fun e w' => e = .returned (.slice (some ⟨b, 0, none⟩) (n - 1) n) ∧ w'.rowIs b 32 n (without f n i) ∧ w.grownBy w' (some b) := by
  have HR := hideN hrow
  have HF := hideN hf
  have HG := hideN hG
  have HL := hideN hL
  have HS := hideN hs
  have HI := hideN hi
  clear hrow hf hG hL hs hi
  go_enter Try.func18, Try.ntmps18
  go_wp2
  go_loopw [3, 4, 10] (fun kp lg v w1 => ∃ (k : Nat) (p q : Int), k ≤ n ∧ Hid (kpTo s k = (p, q)) ∧ kp = .int .i64 p ∧ lg = .int .i64 q ∧ v = .int .i64 k ∧ Hid (Draws w w1)) (fun _ _ v _ => n - (intOf v).toNat)
  case atStart => exact ⟨0, -1, -1, by omega, rfl, rfl, rfl, rfl, Draws.refl w⟩
  case round =>
    obtain ⟨k, p, q, hk, HK, rfl, rfl, rfl, HW⟩ := hrel
    by_cases hlt : k < n
    · have c0 := (HW.out.row HR.out).cell hlt
      have hG1 := (HG.out k hlt).below HW.out.below
      have hl1 := HL.out k hlt
      have hsc := HS.out k hlt
      generalize f k = u at c0 hG1
      have HG1 := hideN hG1
      have HSC : Hid (score (L k) = s k) := hsc.symm
      have hki : (k : Int) < (n : Int) := by omega
      clear hG1 hsc
      by_cases hge : q ≤ s k
      · have HK1 : Hid (kpTo s (k + 1) = ((k : Int), s k)) := kpTo_ge (by rw [HK.out]; exact hge)
        generalize s k = sk at hge HK1 HSC
        go_wp2_with fail
        refine (shown_any HG1.out hl1).mono ?_
        rintro e w2 ⟨rfl, m2, hw⟩
        have HW2 : Hid (Draws w w2) := by rw [hw]; exact HW.out.drewN m2
        rw [HSC.out]
        clear hw
        go_wp2_with fail
        go_roundw
        case rel => exact ⟨k + 1, k, sk, by omega, HK1, rfl, rfl, by go_num, HW2⟩
        case measure => simp [intOf]; omega
      · have HK1 : Hid (kpTo s (k + 1) = (p, q)) := (kpTo_lt (by rw [HK.out]; exact hge)).trans HK.out
        generalize s k = sk at hge HSC
        go_wp2_with fail
        refine (shown_any HG1.out hl1).mono ?_
        rintro e w2 ⟨rfl, m2, hw⟩
        have HW2 : Hid (Draws w w2) := by rw [hw]; exact HW.out.drewN m2
        rw [HSC.out]
        clear hw
        go_wp2_with fail
        go_roundw
        case rel => exact ⟨k + 1, p, q, by omega, HK1, rfl, rfl, by go_num, HW2⟩
        case measure => simp [intOf]; omega
    · obtain rfl : k = n := by omega
      have hpq := HK.out.symm.trans HI.out
      simp only [Prod.mk.injEq] at hpq
      have hp := hpq.1
      have HD : Hid (wr.rowIs b 32 k f) := HW.out.row HR.out
      rw [hp]
      clear hpq hp HK
      go_wp2_with fail
      refine (delete_any b k i f wr hin hn HF.out HD.out).mono ?_
      rintro e w2 ⟨rfl, hr, hg⟩
      have HR2 := hideN hr
      have HG2 : Hid (w.grownBy w2 (some b)) := (HW.out.grown _).trans hg
      clear hr hg
      go_wp2_with fail
      go_ret
      exact ⟨rfl, HR2.out, HG2.out⟩

set_option maxHeartbeats 400000 in
theorem zwl_none (b c : Nat) (w : World) :
    Calls Try.prog 9 #[.slice (some ⟨b, 0, none⟩) 0 c] w fun e w' => e = .returned (.slice (some ⟨b, 0, none⟩) 0 c) ∧ w' = w := by
  go_enter Try.func9, Try.ntmps9
  go_wp2_with fail
  refine (wl_none b c w).mono ?_
  rintro e w' ⟨rfl, hw⟩
  rw [hw]
  go_wp2_with fail
  go_ret
  exact ⟨rfl, rfl⟩

set_option maxHeartbeats 400000 in
theorem zwl_some (b n i : Nat) (f : Nat → Value) (L : Nat → List Row) (s : Nat → Int) (w : World) (hn : (n : Int) ≤ 4194304) (h0 : 0 < n) (hf : IsSl f) (hrow : w.rowIs b 32 n f)
    (hG : ∀ j, j < n → Grp w (f j) (L j)) (hL : ∀ j, j < n → ((L j).length : Int) ≤ 1048576) (hs : ∀ j, j < n → s j = score (L j)) (hi : kpTo s n = ((i : Int), s i)) (hin : i < n) :
    Calls Try.prog 9 #[.slice (some ⟨b, 0, none⟩) n n] w fun e w' => e = .returned (.slice (some ⟨b, 0, none⟩) (n - 1) n) ∧ w'.rowIs b 32 n (without f n i) ∧ w.grownBy w' (some b) := by
  have H := hideN (wl_some b n i f L s w hn h0 hf hrow hG hL hs hi hin)
  clear hrow hf hG hL hs hi
  go_enter Try.func9, Try.ntmps9
  go_wp2_with fail
  refine H.out.mono ?_
  rintro e w2 ⟨rfl, hr, hg⟩
  have HR2 := hideN hr
  have HG2 := hideN hg
  clear hr hg
  go_wp2_with fail
  go_ret
  exact ⟨rfl, HR2.out, HG2.out⟩

end Go.Proofs.Qxb6617321a
