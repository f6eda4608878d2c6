/-
  The walks of zzMaxScore, zzAddGroupBytes, zzAddBytes.
-/
import Derived.Test.Qxb6617321aReads
namespace Go.Proofs.Qxb6617321a
open Go.RowKit

/-- The scores of a list of groups. -/
def scs (ls : List (List Row)) (i : Nat) : Int := score (ls.getD i [])
theorem scs_ge (ls : List (List Row)) (i : Nat) : 0 ≤ scs ls i := score_ge _

/-- No group is long. -/
def Fits (ls : List (List Row)) : Prop := (ls.length : Int) ≤ 1048576 ∧ ∀ i, i < ls.length → ((ls.getD i []).length : Int) ≤ 1048576

theorem mxTo_gt {f : Nat → Int} {lo k : Nat} (h : mxTo f lo k < f (lo + k)) : mxTo f lo (k + 1) = f (lo + k) := by rw [mxTo, if_pos h]
theorem mxTo_le {f : Nat → Int} {lo k : Nat} (h : ¬ mxTo f lo k < f (lo + k)) : mxTo f lo (k + 1) = mxTo f lo k := by rw [mxTo, if_neg h]

set_option maxHeartbeats 400000 in
theorem max_empty (a : Option Addr) (c : Nat) (w : World) :
    Calls Try.prog 11 #[.slice a 0 c, .int .i64 0, .int .i64 0] w fun e w' => e = .returned (.int .i64 (-1)) ∧ ∃ n, w' = w.drewN n := by
  go_enter Try.func11, Try.ntmps11
  go_wp2
  go_loop [7, 8] (fun z v => z = .int .i64 (-1) ∧ v = .int .i64 0) (fun _ _ => 0)
  case atStart => exact ⟨rfl, rfl⟩
  case round =>
    obtain ⟨rfl, rfl⟩ := hrel
    go_wp2
    go_ret
    exact ⟨rfl, 0, rfl⟩

set_option maxHeartbeats 1000000 in
theorem max_row (b off cap lo n : Nat) (ls : List (List Row)) (w : World) (hF : Fits ls) (hn : lo + n ≤ ls.length) (hcell : ∀ i, i < ls.length → ∃ u, w.cell? ⟨b, off + i, none⟩ = some u ∧ InG w u (ls.getD i [])) :
    Calls Try.prog 11 #[.slice (some ⟨b, off, none⟩) ls.length cap, .int .i64 lo, .int .i64 ((lo + n : Nat) : Int)] w fun e w' => e = .returned (.int .i64 (mxTo (scs ls) lo n)) ∧ ∃ n, w' = w.drewN n := by
  have HC := hideN hcell
  have HF := hideN hF
  have hl := hF.1
  clear hcell hF
  generalize htot : mxTo (scs ls) lo n = tot
  have HT := hideN htot
  clear htot
  obtain ⟨len, hlen⟩ : ∃ len, len = ls.length := ⟨_, rfl⟩
  rw [← hlen] at hl hn ⊢
  have HE := hideN hlen
  clear hlen
  obtain ⟨hi, hhi⟩ : ∃ hi, hi = lo + n := ⟨_, rfl⟩
  rw [← hhi]
  have hi1 : lo + n ≤ hi := by omega
  have hi2 : hi ≤ lo + n := by omega
  clear hhi
  go_enter Try.func11, Try.ntmps11
  go_wp2
  go_loopw [7, 8] (fun z v w1 => ∃ (k m : Nat) (q : Int), k ≤ n ∧ Hid (q = mxTo (scs ls) lo k) ∧ z = .int .i64 q ∧ v = .int .i64 ((lo + k : Nat) : Int) ∧ w1 = w.drewN m) (fun _ v _ => hi - (intOf v).toNat)
  case atStart => exact ⟨0, 0, -1, by omega, rfl, rfl, rfl, rfl⟩
  case round =>
    obtain ⟨k, m, q, hk, HN, rfl, rfl, rfl⟩ := hrel
    by_cases hlt : k < n
    · obtain ⟨j, hj⟩ : ∃ j, j = lo + k := ⟨_, rfl⟩
      have HJ := hideN hj
      rw [← hj]
      obtain ⟨u, c0, hG⟩ := HC.out j (by have := HE.out; omega)
      have hl2 := HF.out.2 j (by have := HE.out; omega)
      have hjl : j < len := by omega
      have hjh : j < hi := by omega
      clear hj
      have HG := hideN (hG.below (drewN_below w m))
      by_cases hg : q < scs ls j
      · have HS : Hid (scs ls j = mxTo (scs ls) lo (k + 1)) := by
          have e := HN.out
          have ej := HJ.out
          rw [mxTo_gt (by rw [← ej, ← e]; exact hg), ej]
          exact rfl
        have HSc : Hid (score (ls.getD j []) = scs ls j) := rfl
        generalize scs ls j = sj at HS HSc hg
        clear hG
        go_wp2_with fail
        refine (score_any HG.out hl2).mono ?_
        rintro e w' ⟨rfl, m2, hw⟩
        rw [hw, HSc.out]
        clear hw w'
        go_wp2_with fail
        go_roundw
        case rel => exact ⟨k + 1, _, sj, by omega, HS, rfl, by have := HJ.out; go_num, rfl⟩
        case measure => have := HJ.out; simp [intOf]; omega
      · have HS : Hid (q = mxTo (scs ls) lo (k + 1)) := by
          have e := HN.out
          have ej := HJ.out
          rw [mxTo_le (by rw [← ej, ← e]; exact hg)]
          exact e
        have HSc : Hid (score (ls.getD j []) = scs ls j) := rfl
        generalize scs ls j = sj at HSc hg
        clear hG
        go_wp2_with fail
        refine (score_any HG.out hl2).mono ?_
        rintro e w' ⟨rfl, m2, hw⟩
        rw [hw, HSc.out]
        clear hw w'
        go_wp2_with fail
        go_roundw
        case rel => exact ⟨k + 1, _, q, by omega, HS, rfl, by have := HJ.out; go_num, rfl⟩
        case measure => have := HJ.out; simp [intOf]; omega
    · have HS : Hid (q = tot) := by
        have e := HN.out
        rw [show k = n by omega, HT.out] at e
        exact e
      have hjh : ¬ (lo + k < hi) := by omega
      go_wp2
      go_ret
      exact ⟨ret_int HS.out, m, rfl⟩

theorem max_any {v : Value} {ls : List (List Row)} {w : World} (lo n : Nat) (h : InR w v ls) (hF : Fits ls) (hn : lo + n ≤ ls.length) :
    Calls Try.prog 11 #[v, .int .i64 lo, .int .i64 ((lo + n : Nat) : Int)] w fun e w' => e = .returned (.int .i64 (mxTo (scs ls) lo n)) ∧ ∃ n, w' = w.drewN n := by
  rcases h with ⟨a, c, rfl, rfl⟩ | ⟨b, off, c, rfl, h⟩
  · simp at hn
    obtain ⟨rfl, rfl⟩ := hn
    exact max_empty _ _ _
  · exact max_row b off c lo n ls w hF hn h

/-- What zzAddGroupBytes answers: where its sum stays within the bound the group is not long. -/
def AddG (t0 : Int) (len : Nat) (e : Ending) (w w' : World) : Prop := ∃ t : Int, e = .returned (.int .i64 t) ∧ w' = w ∧ t0 + 24 ≤ t ∧ (t ≤ 1048576 → (len : Int) ≤ 1048576)

set_option maxHeartbeats 400000 in
theorem addG_empty (t0 : Int) (a : Option Addr) (c : Nat) (w : World) (h0 : 0 ≤ t0) (h1 : t0 ≤ 1048576) :
    Calls Try.prog 14 #[.int .i64 t0, .slice a 0 c] w fun e w' => AddG t0 0 e w w' := by
  by_cases hb : (1048576 : Int) < t0 + 24
  · go_enter Try.func14, Try.ntmps14
    go_wp2
    go_ret
    exact ⟨_, rfl, rfl, by omega, fun _ => by omega⟩
  · have d1 : decide ((1048576 : Int) < t0 + 24) = false := by simp; omega
    go_enter Try.func14, Try.ntmps14
    go_wp2
    go_loop [0, 13] (fun z v => z = .int .i64 (t0 + 24) ∧ v = .int .i64 0) (fun _ _ => 0)
    case atStart => exact ⟨rfl, rfl⟩
    case round =>
      obtain ⟨rfl, rfl⟩ := hrel
      go_wp2
      go_ret
      exact ⟨_, rfl, rfl, by omega, fun _ => by omega⟩

set_option maxHeartbeats 1000000 in
theorem addG_row (t0 : Int) (b off cap : Nat) (l : List Row) (w : World) (h0 : 0 ≤ t0) (h1 : t0 ≤ 1048576) (hcell : RowCells w b off l) (hm : (l.length : Int) ≤ 9223372036854775807) :
    Calls Try.prog 14 #[.int .i64 t0, .slice (some ⟨b, off, none⟩) l.length cap] w fun e w' => AddG t0 l.length e w w' := by
  have HC := hideN hcell
  clear hcell
  obtain ⟨len, hlen⟩ : ∃ len, len = l.length := ⟨_, rfl⟩
  rw [← hlen] at hm ⊢
  have HE := hideN hlen
  clear hlen
  by_cases hb : (1048576 : Int) < t0 + 24
  · go_enter Try.func14, Try.ntmps14
    go_wp2
    go_ret
    exact ⟨_, rfl, rfl, by omega, fun _ => by omega⟩
  · have d1 : decide ((1048576 : Int) < t0 + 24) = false := by simp; omega
    go_enter Try.func14, Try.ntmps14
    go_wp2
    go_loop [0, 13] (fun z v => ∃ (k : Nat) (n : Int), k ≤ len ∧ t0 + 24 + 32 * (k : Int) ≤ n ∧ n ≤ 1048576 ∧ z = .int .i64 n ∧ v = .int .i64 k) (fun _ v => len - (intOf v).toNat)
    case atStart => exact ⟨0, t0 + 24, by omega, by omega, by omega, rfl, rfl⟩
    case round =>
      obtain ⟨k, n, hk, hn0, hn1, rfl, rfl⟩ := hrel
      by_cases hlt : k < len
      · obtain ⟨c0, c1, c2⟩ := HC.out k (by rw [← HE.out]; exact hlt)
        clear c0 c1
        generalize rowAt l k = r at c2
        have hki : (k : Int) < (len : Int) := by omega
        by_cases h2 : (1048576 : Int) < (r.t.size : Int)
        · go_wp2
          go_ret
          exact ⟨_, rfl, rfl, by omega, fun q => by omega⟩
        · by_cases h3 : (1048576 : Int) < n + (32 + (r.t.size : Int))
          · go_wp2
            go_ret
            exact ⟨_, rfl, rfl, by omega, fun q => by omega⟩
          · go_wp2
            go_round
            case rel => exact ⟨k + 1, n + (32 + (r.t.size : Int)), by omega, by omega, by omega, by go_num, by go_num⟩
            case measure => simp [intOf]; omega
      · go_wp2
        go_ret
        exact ⟨_, rfl, rfl, by omega, fun q => by omega⟩

theorem addG_any {v : Value} {l : List Row} {w : World} (t0 : Int) (h : InG w v l) (h0 : 0 ≤ t0) (h1 : t0 ≤ 1048576) (hm : (l.length : Int) ≤ 9223372036854775807) :
    Calls Try.prog 14 #[.int .i64 t0, v] w fun e w' => AddG t0 l.length e w w' := by
  rcases h with ⟨rfl, rfl⟩ | ⟨x, c, rfl, rfl⟩ | ⟨b, off, c, rfl, h⟩
  · exact addG_empty t0 _ _ _ h0 h1
  · exact addG_empty t0 _ _ _ h0 h1
  · exact addG_row t0 b off c l w h0 h1 h hm

/-- What zzAddBytes answers. -/
def AddR (ls : List (List Row)) (e : Ending) (w w' : World) : Prop := ∃ t : Int, e = .returned (.int .i64 t) ∧ w' = w ∧ 0 ≤ t ∧ (t ≤ 1048576 → Fits ls)

set_option maxHeartbeats 400000 in
theorem addR_empty (t0 : Int) (a : Option Addr) (c : Nat) (w : World) (h0 : 0 ≤ t0) (h1 : t0 ≤ 1048576) :
    Calls Try.prog 6 #[.int .i64 t0, .slice a 0 c] w fun e w' => AddR [] e w w' := by
  by_cases hb : (1048576 : Int) < t0 + 24
  · go_enter Try.func6, Try.ntmps6
    go_wp2
    go_ret
    exact ⟨_, rfl, rfl, by omega, fun _ => ⟨by simp, fun i hi => by simp at hi⟩⟩
  · have d1 : decide ((1048576 : Int) < t0 + 24) = false := by simp; omega
    go_enter Try.func6, Try.ntmps6
    go_wp2
    go_loop [0, 13] (fun z v => z = .int .i64 (t0 + 24) ∧ v = .int .i64 0) (fun _ _ => 0)
    case atStart => exact ⟨rfl, rfl⟩
    case round =>
      obtain ⟨rfl, rfl⟩ := hrel
      go_wp2
      go_ret
      exact ⟨_, rfl, rfl, by omega, fun _ => ⟨by simp, fun i hi => by simp at hi⟩⟩

set_option maxHeartbeats 1000000 in
theorem addR_row (t0 : Int) (b off cap : Nat) (ls : List (List Row)) (w : World) (h0 : 0 ≤ t0) (h1 : t0 ≤ 1048576) (hm : (ls.length : Int) ≤ 9223372036854775807) (hms : ∀ i, i < ls.length → ((ls.getD i []).length : Int) ≤ 9223372036854775807)
    (hcell : ∀ i, i < ls.length → ∃ u, w.cell? ⟨b, off + i, none⟩ = some u ∧ InG w u (ls.getD i [])) :
    Calls Try.prog 6 #[.int .i64 t0, .slice (some ⟨b, off, none⟩) ls.length cap] w fun e w' => AddR ls e w w' := by
  have HC := hideN hcell
  have HM := hideN hms
  clear hcell hms
  obtain ⟨len, hlen⟩ : ∃ len, len = ls.length := ⟨_, rfl⟩
  rw [← hlen] at hm ⊢
  have HE := hideN hlen
  clear hlen
  by_cases hb : (1048576 : Int) < t0 + 24
  · go_enter Try.func6, Try.ntmps6
    go_wp2
    go_ret
    exact ⟨_, rfl, rfl, by omega, fun _ => by omega⟩
  · have d1 : decide ((1048576 : Int) < t0 + 24) = false := by simp; omega
    go_enter Try.func6, Try.ntmps6
    go_wp2
    go_loop [0, 13] (fun z v => ∃ (k : Nat) (n : Int), k ≤ len ∧ Hid (∀ j, j < k → ((ls.getD j []).length : Int) ≤ 1048576) ∧ (k : Int) ≤ n ∧ n ≤ 1048576 ∧ z = .int .i64 n ∧ v = .int .i64 k) (fun _ v => len - (intOf v).toNat)
    case atStart => exact ⟨0, t0 + 24, by omega, fun j hj => by omega, by omega, by omega, rfl, rfl⟩
    case round =>
      obtain ⟨k, n, hk, HK, hn0, hn1, rfl, rfl⟩ := hrel
      by_cases hlt : k < len
      · obtain ⟨u, c0, hG⟩ := HC.out k (by rw [← HE.out]; exact hlt)
        have hml := HM.out k (by rw [← HE.out]; exact hlt)
        have HG := hideN hG
        clear hG
        have hki : (k : Int) < (len : Int) := by omega
        go_wp2_with fail
        refine (addG_any n HG.out (by omega) hn1 hml).mono ?_
        rintro e w' ⟨t, rfl, hw, ht1, ht2⟩
        rw [hw]
        have HT2 := hideN ht2
        clear hw w' ht2
        by_cases h3 : (1048576 : Int) < t
        · go_wp2_with fail
          go_ret
          exact ⟨_, rfl, rfl, by omega, fun q => by omega⟩
        · have HK1 : Hid (∀ j, j < k + 1 → ((ls.getD j []).length : Int) ≤ 1048576) := fun j hj => by
            by_cases e : j = k
            · rw [e]; exact HT2.out (by omega)
            · exact HK.out j (by omega)
          go_wp2_with fail
          go_round
          case rel => exact ⟨k + 1, t, by omega, HK1, by omega, by omega, rfl, by go_num⟩
          case measure => simp [intOf]; omega
      · have HS : Hid (Fits ls) := by
          have e := HE.out
          exact ⟨by omega, fun i hi => HK.out i (by omega)⟩
        go_wp2
        go_ret
        exact ⟨_, rfl, rfl, by omega, fun q => HS.out⟩

theorem addR_any {v : Value} {ls : List (List Row)} {w : World} (t0 : Int) (h : InR w v ls) (h0 : 0 ≤ t0) (h1 : t0 ≤ 1048576) (hm : (ls.length : Int) ≤ 9223372036854775807) (hms : ∀ i, i < ls.length → ((ls.getD i []).length : Int) ≤ 9223372036854775807) :
    Calls Try.prog 6 #[.int .i64 t0, v] w fun e w' => AddR ls e w w' := by
  rcases h with ⟨a, c, rfl, rfl⟩ | ⟨b, off, c, rfl, h⟩
  · exact addR_empty t0 _ _ _ h0 h1
  · exact addR_row t0 b off c ls w h0 h1 hm hms h

end Go.Proofs.Qxb6617321a
