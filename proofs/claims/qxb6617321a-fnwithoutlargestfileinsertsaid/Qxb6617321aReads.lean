/-
  The walks of the functions that only read the rows that came in: zzScore, zzMaxScore, zzAddGroupBytes, zzAddBytes.
-/
import Derived.Test.Qxb6617321aMem
namespace Go.Proofs.Qxb6617321a
open Go.RowKit

theorem ret_int {x y : Int} (k : x = y) : Ending.returned (.int .i64 x) = .returned (.int .i64 y) := by rw [k]

theorem scTo_st {l : List Row} {k : Nat} (h : isSt (rowAt l k).t = true) : scTo l (k + 1) = scTo l k := by rw [scTo, sc1, if_pos h]
theorem scTo_gt {l : List Row} {k : Nat} (h : isSt (rowAt l k).t = false) (h2 : scTo l k < wrap64 ((rowAt l k).a + (rowAt l k).d)) : scTo l (k + 1) = wrap64 ((rowAt l k).a + (rowAt l k).d) := by rw [scTo, sc1, if_neg (by simp [h]), if_pos h2]
theorem scTo_le {l : List Row} {k : Nat} (h : isSt (rowAt l k).t = false) (h2 : ¬ scTo l k < wrap64 ((rowAt l k).a + (rowAt l k).d)) : scTo l (k + 1) = scTo l k := by rw [scTo, sc1, if_neg (by simp [h]), if_neg h2]

set_option maxHeartbeats 400000 in
theorem score_empty (a : Option Addr) (c : Nat) (w : World) :
    Calls Try.prog 17 #[.slice a 0 c] w fun e w' => e = .returned (.int .i64 0) ∧ ∃ n, w' = w.drewN n := by
  go_enter Try.func17, Try.ntmps17
  go_wp2
  go_loop [3, 8] (fun z v => z = .int .i64 0 ∧ v = .int .i64 0) (fun _ _ => 0)
  case atStart => exact ⟨rfl, rfl⟩
  case round =>
    obtain ⟨rfl, rfl⟩ := hrel
    go_wp2
    go_ret
    exact ⟨rfl, 0, rfl⟩

set_option maxHeartbeats 1000000 in
theorem score_row (b off cap : Nat) (l : List Row) (w : World) (hl : (l.length : Int) ≤ 1048576) (hcell : RowCells w b off l) :
    Calls Try.prog 17 #[.slice (some ⟨b, off, none⟩) l.length cap] w fun e w' => e = .returned (.int .i64 (score l)) ∧ ∃ n, w' = w.drewN n := by
  have HC := hideN hcell
  have HL : Hid (score l = scTo l l.length) := rfl
  clear hcell
  generalize score l = tot at HL ⊢
  obtain ⟨len, hlen⟩ : ∃ len, len = l.length := ⟨_, rfl⟩
  rw [← hlen] at hl ⊢
  have HE := hideN hlen
  clear hlen
  go_enter Try.func17, Try.ntmps17
  go_wp2
  go_loopw [3, 8] (fun z v w1 => ∃ (k m : Nat) (n : Int), k ≤ len ∧ Hid (n = scTo l k) ∧ z = .int .i64 n ∧ v = .int .i64 k ∧ w1 = w.drewN m) (fun _ v _ => len - (intOf v).toNat)
  case atStart => exact ⟨0, 0, 0, by omega, rfl, rfl, rfl, rfl⟩
  case round =>
    obtain ⟨k, m, n, hk, HN, rfl, rfl, rfl⟩ := hrel
    by_cases hlt : k < len
    · obtain ⟨c0, c1, c2⟩ := HC.out k (by rw [← HE.out]; exact hlt)
      have hki : (k : Int) < (len : Int) := by omega
      obtain ⟨r, hr⟩ : ∃ r, r = rowAt l k := ⟨_, rfl⟩
      rw [← hr] at c0 c1 c2
      by_cases hs : isSt r.t = true
      · have hb : (r.t.toList == [115, 116, 97, 116, 115]) = true := hs
        have HS : Hid (n = scTo l (k + 1)) := HN.out.trans (scTo_st (by rw [← hr]; exact hs)).symm
        clear hs hr
        go_wp2_with fail
        go_roundw
        case rel => exact ⟨k + 1, m, n, by omega, HS, rfl, by go_num, rfl⟩
        case measure => simp [intOf]; omega
      · have hs' : isSt r.t = false := by simpa using hs
        have hb : (r.t.toList == [115, 116, 97, 116, 115]) = false := hs'
        by_cases hg : n < wrap64 (r.a + r.d)
        · have HS : Hid (wrap64 (r.a + r.d) = scTo l (k + 1)) := by
            have e := HN.out
            rw [scTo_gt (by rw [← hr]; exact hs') (by rw [← e, ← hr]; exact hg), ← hr]
            exact rfl
          clear hs hs' hr
          go_wp2_with fail
          go_quiet (fail)
          go_wp2_with fail
          go_roundw
          case rel => exact ⟨k + 1, _, wrap64 (r.a + r.d), by omega, HS, rfl, by go_num, rfl⟩
          case measure => simp [intOf]; omega
        · have HS : Hid (n = scTo l (k + 1)) := by
            have e := HN.out
            rw [scTo_le (by rw [← hr]; exact hs') (by rw [← e, ← hr]; exact hg)]
            exact e
          clear hs hs' hr
          go_wp2_with fail
          go_quiet (fail)
          go_wp2_with fail
          go_roundw
          case rel => exact ⟨k + 1, _, n, by omega, HS, rfl, by go_num, rfl⟩
          case measure => simp [intOf]; omega
    · have HS : Hid (n = tot) := by
        have e := HN.out
        rw [show k = len by omega, HE.out, ← HL.out] at e
        exact e
      go_wp2
      go_ret
      exact ⟨ret_int HS.out, m, rfl⟩

theorem score_any {v : Value} {l : List Row} {w : World} (h : InG w v l) (hl : (l.length : Int) ≤ 1048576) :
    Calls Try.prog 17 #[v] w fun e w' => e = .returned (.int .i64 (score l)) ∧ ∃ n, w' = w.drewN n := by
  rcases h with ⟨rfl, rfl⟩ | ⟨x, c, rfl, rfl⟩ | ⟨b, off, c, rfl, h⟩
  · exact score_empty _ _ _
  · exact score_empty _ _ _
  · exact score_row b off c l w hl h

end Go.Proofs.Qxb6617321a
