/-
  The law on the name table, walked at a list that is not empty.
-/
import Derived.Test.Qxb6619614aNameInv
namespace Go.Proofs.Qxb6619614a
open Go.RowKit Go.Maps

set_option maxRecDepth 100000 in
set_option maxHeartbeats 2000000 in
theorem name_row (b off len cap : Nat) (f : Nat → ByteArray) (w : World) (hlt0 : 0 < len) (hbw : b < w.heap.size) (hsz : ∀ k, k < len → (f k).size ≤ maxLen) (hcell : ∀ k, k < len → w.cell? ⟨b, off + k, none⟩ = some (.string (f k))) :
    Calls Try.prog 5 #[.slice (some ⟨b, off, none⟩) len cap] w fun e w' => e = .returned (.bool true) ∧ Below w.heap.size w w' := by
  have HC : Hid (∀ k, k < len → w.cell? ⟨b, off + k, none⟩ = some (.string (f k))) := hcell
  have HZ : Hid (∀ k, k < len → (f k).size ≤ maxLen) := hsz
  have HS : Hid (Inv w (w.alloc (.cells #[.slice none 0 0, .map none] 39)) (.slice none 0 0) (.map none) (.slice none 0 0) []) := Inv.start w
  obtain ⟨i0, hi, hz0, hz1, hz2⟩ := info_parts info9
  clear hcell hsz
  by_cases hl : (4096 : Int) < (len : Int)
  · go_enter Try.func5, Try.ntmps5
    go_wp2_with fail
    refine (zzBytesN_row _ _ _ _ f _ HC.out).mono ?_
    rintro e w' ⟨r, rfl, hw, hr⟩
    rw [hw]
    clear hw w' hr
    cases r
    all_goals
      go_wp2_with fail
      go_ret
      exact ⟨rfl, Below.refl _ _⟩
  · have hl' : (len : Int) ≤ 4096 := by omega
    have d1 : decide ((4096 : Int) < (len : Int)) = false := by simp; omega
    clear hl
    go_enter Try.func5, Try.ntmps5
    go_wp2_with fail
    refine (zzBytesN_row _ _ _ _ f _ HC.out).mono ?_
    rintro e w' ⟨r, rfl, hw, hr⟩
    rw [hw]
    clear hw w'
    cases r
    · clear hr
      go_wp2_with fail
      go_ret
      exact ⟨rfl, Below.refl _ _⟩
    have HR : Hid (∀ k, k < len → ((f k).size : Int) ≤ 1048576) := hr rfl
    clear hr
    go_wp2_with fail
    go_loop [3, 4] (fun z v => ∃ (k : Nat) (n : Int), k ≤ len ∧ 0 ≤ n ∧ n ≤ 1048576 ∧ z = .int .i64 n ∧ v = .int .i64 k) (fun _ v => len - (intOf v).toNat)
    case atStart => exact ⟨0, 16 * len, by omega, by omega, by omega, by go_num, rfl⟩
    case round =>
      obtain ⟨k, n, hk, hn0, hn1, rfl, rfl⟩ := hrel
      by_cases hlt : k < len
      · have hc := HC.out k hlt
        have hz := HR.out k hlt
        by_cases h2 : (1048576 : Int) < n + ((f k).size : Int)
        · go_wp2_with fail
          go_ret
          exact ⟨rfl, Below.refl _ _⟩
        · go_wp2_with fail
          go_round
          case rel => exact ⟨k + 1, n + ((f k).size : Int), by omega, by omega, by omega, by go_num, by go_num⟩
          case measure => simp [intOf]; omega
      · go_wp2_with fail
        clear hlt hk hn0 hn1 HR
        refine (newTable _).mono ?_
        rintro e w' ⟨rfl, hw⟩
        rw [hw]
        clear hw w'
        go_wp2_with fail
        go_loopw [6, 7] (fun d v wr => ∃ (k : Nat) (nv mv : Value), k ≤ len ∧ v = .int .i64 k ∧ Inv w wr nv mv d (ddTo f k)) (fun _ v _ => len - (intOf v).toNat)
        case atStart => exact ⟨0, _, _, by omega, rfl, HS.out⟩
        case round =>
          obtain ⟨k, nv, mv, hk, rfl, hI⟩ := hrel
          by_cases hlt : k < len
          · have hc : wr.cell? ⟨b, off + k, none⟩ = some (.string (f k)) := (hI.below.cell (by exact hbw)).trans (HC.out k hlt)
            have hz := HZ.out k hlt
            have hdl : ((ddTo f k).length : Int) ≤ 4096 := by have := ddTo_len f k; omega
            obtain ⟨s, hs⟩ : ∃ s, s = f k := ⟨_, rfl⟩
            rw [← hs] at hc hz
            obtain ⟨ds, hds⟩ : ∃ ds, ds = ddTo f k := ⟨_, rfl⟩
            rw [← hds] at hdl hI
            obtain ⟨da, dc, rfl⟩ := own_shape hI.row
            have HI : Hid (Inv w wr nv mv (.slice da ds.length dc) ds) := hI
            have hws : w.heap.size ≤ wr.heap.size := hI.below.size
            by_cases hit : ixN s ds < ds.length
            · have HX : Hid (ixI s ds = (ixN s ds : Nat)) := ixI_hit hit
              have HD : Hid (ddTo f (k + 1) = ds) := by rw [hds]; exact ddTo_hit (by rw [← hs, ← hds]; exact hit)
              clear hI hs hds
              go_wp2_with fail
              refine (indexOf_own s HI.out.row (by omega)).mono ?_
              rintro e w' ⟨rfl, hw⟩
              rw [hw, HX.out]
              clear hw w'
              go_wp2_with fail
              refine (zadd_hit s HI.out.tab hz hit).mono ?_
              rintro e w' ⟨rfl, hw⟩
              rw [hw]
              clear hw w'
              go_wp2_with fail
              go_roundw
              case rel => exact ⟨k + 1, nv, mv, by omega, by go_num, by rw [HD.out]; exact HI.out⟩
              case measure => simp [intOf]; omega
            · have HX : Hid (ixI s ds = -1) := ixI_miss hit
              have HD : Hid (ddTo f (k + 1) = ds ++ [s]) := by rw [hds, hs]; exact ddTo_miss (by rw [← hs, ← hds]; exact hit)
              clear hI hs hds
              go_wp2_with fail
              refine (indexOf_own s HI.out.row (by omega)).mono ?_
              rintro e w' ⟨rfl, hw⟩
              rw [hw, HX.out]
              clear hw w'
              go_wp2_with (first | (at_builtin; refine wpList_append_own_at _ rfl _ _ 30 rfl (w.heap.size + 1) 9 i0 (.string ByteArray.empty) 1 16 Try.underlying30 hi hz0 hz1 hz2 rfl (by decide) _ _ _ rfl (HI.out.row.alloc _) ⟨wr.heap.size, 0, none⟩ 1 1 [.string s] rfl rfl (cell_one_new _ _ _) ?c2 ?c3 ?c4 ?c5 ?_))
              case c2 => intro u hu; simp at hu; subst hu; rfl
              case c3 => unfold maxLen; omega
              case c4 => omega
              case c5 => have := HI.out.tab.lt; simp; omega
              intro v' w1 hown' hgrow _ hloc
              obtain ⟨hT1, hf1, hb1⟩ := HI.out.appended hgrow hloc
              obtain ⟨va, vc, hva⟩ := own_shape hown'
              have hc1 : w1.cell? ⟨b, off + k, none⟩ = some (.string s) := (hb1.cell (by exact hbw)).trans ((HI.out.below.cell (p := ⟨b, off + k, none⟩) (by exact hbw)).symm.trans hc)
              rw [hva] at hown' hf1 ⊢
              have HO := hideN hown'
              have HT1 := hideN hT1
              have HF1 := hideN hf1
              have HB1 := hideN hb1
              clear hown' hgrow hloc hva hT1 hf1 hb1
              go_wp2_with fail
              refine (zadd_miss s HT1.out hz hit (by omega)).mono ?_
              rintro e w2 ⟨nv', mv', rfl, hT, hTu⟩
              have HI2 : Hid (Inv w w2 nv' mv' (.slice va (ds.length + 1) vc) (ds ++ [s])) := Inv.added HO.out HT1.out HF1.out HB1.out hT hTu
              clear hT hTu
              go_wp2_with fail
              go_roundw
              case rel => exact ⟨k + 1, nv', mv', by omega, by go_num, by rw [HD.out]; exact HI2.out⟩
              case measure => simp [intOf]; omega
          · obtain rfl : k = len := by omega
            have hmem := ddTo_mem f k
            have hpos : 0 < (ddTo f k).length := by have := hmem 0 hlt0; omega
            have hdl : ((ddTo f k).length : Int) ≤ 4096 := by have := ddTo_len f k; omega
            have HM : Hid (∀ j, j < k → ixN (f j) (ddTo f k) < (ddTo f k).length) := hmem
            generalize ddTo f k = ds at hI hpos hdl HM
            clear hmem
            obtain ⟨ga, ca, rfl, _⟩ := own_some hI.row hpos
            obtain ⟨gn, cn, rfl, _⟩ := own_some hI.tab.row hpos
            have HI := hideN hI
            have hlen0 : (0 : Int) < (ds.length : Int) := by omega
            clear hI
            go_wp2_with fail
            refine (tableNames HI.out.tab).mono ?_
            rintro e w' ⟨rfl, hw⟩
            rw [hw]
            clear hw w'
            go_wp2_with fail
            go_loopw [10] (fun v w3 => ∃ (j : Nat), j ≤ ds.length ∧ v = .int .i64 j ∧ Hid (Inv w w3 (.slice (some ⟨gn, 0, none⟩) ds.length cn) mv (.slice (some ⟨ga, 0, none⟩) ds.length ca) ds)) (fun v _ => ds.length - (intOf v).toNat)
            case atStart => exact ⟨0, by omega, rfl, HI⟩
            case round =>
              clear HI
              obtain ⟨j, hj, rfl, HI⟩ := hrel
              by_cases hjl : j < ds.length
              · have ha := row_cell HI.out.row hjl
                have hn := row_cell HI.out.tab.row hjl
                obtain ⟨d, hd⟩ : ∃ d, d = ds.getD j ByteArray.empty := ⟨_, rfl⟩
                rw [← hd] at ha hn
                clear hd
                have hji : (j : Int) < (ds.length : Int) := by omega
                go_wp2_with fail
                go_quiet (fail)
                go_wp2_with fail
                go_roundw
                case rel => exact ⟨j + 1, by omega, by go_num, HI.out.drewN _⟩
                case measure => simp [intOf]; omega
              · go_wp2_with fail
                clear hjl hj
                go_loopw [11] (fun v w4 => ∃ (j : Nat), j ≤ k ∧ v = .int .i64 j ∧ Hid (Inv w w4 (.slice (some ⟨gn, 0, none⟩) ds.length cn) mv (.slice (some ⟨ga, 0, none⟩) ds.length ca) ds)) (fun v _ => k - (intOf v).toNat)
                case atStart => exact ⟨0, by omega, rfl, HI⟩
                case round =>
                  clear HI
                  obtain ⟨j, hj, rfl, HI⟩ := hrel
                  by_cases hjl : j < k
                  · have hc := (HI.out.below.cell (p := ⟨b, off + j, none⟩) (by exact hbw)).trans (HC.out j hjl)
                    have hz := HZ.out j hjl
                    have hit := HM.out j hjl
                    generalize f j = s at hc hz hit
                    have hji : (j : Int) < (k : Int) := by omega
                    go_wp2_with fail
                    go_quiet ((first | (go_at_call 14; exact Calls.quiet_of_same (zadd_hit s (HI.out.tab.drewN _) hz hit)) | (go_at_call 13; exact Calls.quiet_of_same (indexOf_hit s (own_drewN HI.out.row _) (by omega) hit))))
                    go_wp2_with fail
                    go_roundw
                    case rel => exact ⟨j + 1, by omega, by go_num, HI.out.drewN _⟩
                    case measure => simp [intOf]; omega
                  · go_wp2_with fail
                    refine (tableNames HI.out.tab).mono ?_
                    rintro e w' ⟨rfl, hw⟩
                    rw [hw]
                    clear hw w'
                    go_wp2_with fail
                    go_ret
                    exact ⟨rfl, HI.out.below⟩

end Go.Proofs.Qxb6619614a
